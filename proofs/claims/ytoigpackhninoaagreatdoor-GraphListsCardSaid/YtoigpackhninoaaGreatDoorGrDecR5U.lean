import Derived.Test.YtoigpackhninoaaGreatDoorZ17
namespace Go.Proofs.YtoigpackhninoaaGreatDoor
open Gr
open _root_.Go.Proofs.Tryz
open _root_.Go.Lib (hid)
set_option maxRecDepth 100000
set_option maxHeartbeats 16000000
open Go.RowKit
theorem zcn (s:Gr.Str) (k:Nat) (hk:k<s.length):s[k]? =some (s[k]'hk):=List.getElem?_eq_getElem hk
theorem zs9 (s:Gr.Str) (hl:s.length<=268435455) (w wc0:World) (gb n c t:Nat) (A:Option Addr) (neg:Bool) (ev:Int) (ds:List Nat) (r:Option Gr.Dn) (HGB:Hid (w.heap.size=gb))
 (HT:Hid (n=ds.length/\t<=s.length/\ds.length<=536870911/\(∀v∈ds,v<10)/\-268435455<=ev/\ev<=0/\r=expS 1000000 neg ds ev (s.drop t))) (HO:Hid (OwnRow intL wc0 (gb+1) 3 (.slice A n c) ds)) (HB:Hid (Blk wc0 gb 69 #[.bool false,.slice none 0 0,.int .i64 0]/\Below gb w wc0))
 {u1 u3 u7 u9 u10 u11 u12 u13 u14 u15 u16 u17 u18 u19 u20 u21 u22 u23 u24 u25 u26 u27 u28 u29 u30 u31 u32 u33 u34 u35 u36 u37 u38 u39 u40 u41 u42 u43 u44 u45 u46 u47 u48 u49 u50 u51 u52 u53 u54 u55 u56 u57 u58 u59 u60 u61 u62 u63 u64 u65 u66 u67 u68 u69 u70 u71 u72 u73 u74 u75 u76 u77 u78 u79 u80 u81 u82 u83 u84 u85 u86 u87 u88 u89 u90 u91 u92 u93 u94 u95 u96 u97 u98 u99 u100 u101 u102 u103 u104 u105 u106 u107 u108 u109 u110 u111 u112 u113 u114 u115 u116 u117 u118 u119 u120 u121 u122 u123 u124 u125 u126 u127 u128 u129 u130 u131 u132 u133 u134 u135 u136 u137 u138 u139 u140 u141 u142 u143 u144 u145 u146 u147 u148 u149 u150 u151 u152 u153 u154:Value}:
 Code.wp prog (tl 9 (f75.body.getD .skip)) (bodyPost prog f75 (zcb r w)) {tmps:=List.toArray (.string ⟨s.toArray⟩::u1::.pointer (some ⟨gb,0,none⟩)::u3::.int .i64 (t:Int)::.bool neg::.slice A n c::u7::.int .i64 ev::u9::u10::u11::u12::u13::u14::u15::u16::u17::u18::u19::u20::u21::u22::u23::u24::u25::u26::u27::u28::u29::u30::u31::u32::u33::u34::u35::u36::u37::u38::u39::u40::u41::u42::u43::u44::u45::u46::u47::u48::u49::u50::u51::u52::u53::u54::u55::u56::u57::u58::u59::u60::u61::u62::u63::u64::u65::u66::u67::u68::u69::u70::u71::u72::u73::u74::u75::u76::u77::u78::u79::u80::u81::u82::u83::u84::u85::u86::u87::u88::u89::u90::u91::u92::u93::u94::u95::u96::u97::u98::u99::u100::u101::u102::u103::u104::u105::u106::u107::u108::u109::u110::u111::u112::u113::u114::u115::u116::u117::u118::u119::u120::u121::u122::u123::u124::u125::u126::u127::u128::u129::u130::u131::u132::u133::u134::u135::u136::u137::u138::u139::u140::u141::u142::u143::u144::u145::u146::u147::u148::u149::u150::u151::u152::u153::u154::[]),defers:=[]} wc0:=by
 obtain⟨d,ht2,ht3⟩:t<=s.length/\-268435455<=ev/\ev<=0:=⟨HT.out.2.1,HT.out.2.2.2.2.1,HT.out.2.2.2.2.2.1⟩
 generalize hc0:tl 9 (f75.body.getD .skip)=c0;simp only[tl,f75,Option.getD_some]at hc0;subst hc0;obtain⟨S,af⟩:∃S,decide (s[t]? =some 101\/s[t]? =some 69)=S:=⟨_,rfl⟩
 have E:=hid af;clear af;go_upto_region 17 with fail;go_cut [92] (fun s92 K=>s92=.bool S/\K=wc0)
 case first=>
  by_cases hts:t<s.length
  ·have ah:(t:Int)<(s.length:Int):=by omega
   obtain⟨g,l⟩:∃g,s[t]'hts=g:=⟨_,rfl⟩
   have o:s[t]? =some g:=by rw[zcn s t hts,l]
   have m:=E.out;rw[o]at m;by_cases h101:g=101
   ·have O:=zaw s t hts g 101 101 (by decide) l h101;have L:=zap s t hts g 101 101 (by decide) l h101;obtain rfl:S=true:=by rw[<-m];simp[h101]
    clear l o m h101;go_wp2;go_meet;exact⟨rfl,rfl⟩
   ·have O:=zan s t hts g 101 101 (by decide) l h101;have L:=zaq s t hts g 101 101 (by decide) l h101;by_cases h69:g=69
    ·have u:=zaw s t hts g 69 69 (by decide) l h69;have G:=zap s t hts g 69 69 (by decide) l h69;obtain rfl:S=true:=by rw[<-m];simp[h69]
     clear l o m h101 h69 O L;go_wp2;go_meet;exact⟨rfl,rfl⟩
    ·have u:=zan s t hts g 69 69 (by decide) l h69;have G:=zaq s t hts g 69 69 (by decide) l h69;obtain rfl:S=false:=by rw[<-m];simp[h101,h69]
     clear l o m h101 h69;go_wp2;go_meet;exact⟨rfl,rfl⟩
  ·have ah:¬(t:Int)<(s.length:Int):=by omega
   obtain rfl:S=false:=by rw[<-E.out,List.getElem?_eq_none (by omega)];rfl
   go_wp2;go_meet;exact⟨rfl,rfl⟩
 case rest=>
 obtain⟨rfl,z⟩:=hcut;rw[z];clear z;go_upto_if 92 with fail;go_cut [4,8] (fun s4 s8 K=>∃(t2:Nat) (ev2:Int),s4=.int .i64 (t2:Int)/\s8=.int .i64 ev2/\Hid (t2<=s.length/\-1152921504606846976<=ev2/\ev2<=1152921504606846976/\r=if t2=s.length then some (norm neg ds ev2)else none)/\Hid (OwnRow intL K (gb+1) 3 (.slice A n c) ds)/\Hid (Blk K gb 69 #[.bool false,.slice none 0 0,.int .i64 0]/\Below gb w K))
 case first=>
  cases S with
  |false=>
   have h1:=of_decide_eq_false E.out;have D:Hid (t<=s.length/\-1152921504606846976<=ev/\ev<=1152921504606846976/\r=if t=s.length then some (norm neg ds ev)else none):=hid ⟨d,by omega,by omega,by
    rw[HT.out.2.2.2.2.2.2,zv6 _ _ _ _ _ _ d (fun e=>h1 (.inl e)) (fun e=>h1 (.inr e))]⟩
   clear h1;go_wp2;go_meet;exact⟨t,ev,rfl,rfl,D,HO,HB⟩
  |true=>
   have h1:s[t]? =some 101\/s[t]? =some 69:=of_decide_eq_true E.out;have hts:t<s.length:=by
    rcases Nat.lt_or_ge t s.length with h|h
    ·exact h
    ·rw[List.getElem?_eq_none h]at h1;rcases h1 with h1|h1<;>cases h1
   obtain⟨b,hb⟩:∃b,(if s[t+1]? =some 45\/s[t+1]? =some 43 then t+2 else t+1)=b:=⟨_,rfl⟩
   obtain⟨f,hm⟩:∃f,decide (s[t+1]? =some 45)=f:=⟨_,rfl⟩
   have aa:b<=s.length:=by
    rw[<-hb];split
    ·rename_i h;rcases Nat.lt_or_ge (t+1) s.length with h2|h2
     ·omega
     ·rw[List.getElem?_eq_none h2]at h;rcases h with h|h<;>cases h
    ·omega
   have V:=hid (zv7 1000000 neg ds ev s t b f hts h1 hb.symm hm.symm aa);obtain⟨R,ai⟩:∃R,decide (s[t+1]? =some 45\/s[t+1]? =some 43)=R:=⟨_,rfl⟩
   have I:=hid (And.intro ai (And.intro hm hb));have htI:(t:Int)<=268435455:=by omega
   clear ai hm hb h1 E;go_upto_region 20 with fail;go_cut [110] (fun s110 K=>s110=.bool R/\K=wc0)
   case first=>
    by_cases d:t+1<s.length
    ·have T:(t:Int)+1<(s.length:Int):=by omega
     obtain⟨g,l⟩:∃g,s[t+1]'d=g:=⟨_,rfl⟩
     have o:s[t+1]? =some g:=by rw[zcn s (t+1) d,l]
     have m:=I.out.1;rw[o]at m;have ao:((t:Int)+1).toNat=t+1:=by omega
     by_cases h43:g=43
     ·have O:=zaw s (t+1) d g 43 43 (by decide) l h43;have L:=zap s (t+1) d g 43 43 (by decide) l h43;obtain rfl:R=true:=by rw[<-m];simp[h43]
      clear l o m h43;go_wp2;go_meet;exact⟨rfl,rfl⟩
     ·have O:=zan s (t+1) d g 43 43 (by decide) l h43;have L:=zaq s (t+1) d g 43 43 (by decide) l h43;by_cases h45:g=45
      ·have u:=zaw s (t+1) d g 45 45 (by decide) l h45;have G:=zap s (t+1) d g 45 45 (by decide) l h45;obtain rfl:R=true:=by rw[<-m];simp[h45]
       clear l o m h43 h45;go_wp2;go_meet;exact⟨rfl,rfl⟩
      ·have u:=zan s (t+1) d g 45 45 (by decide) l h45;have G:=zaq s (t+1) d g 45 45 (by decide) l h45;obtain rfl:R=false:=by rw[<-m];simp[h43,h45]
       clear l o m h43 h45;go_wp2;go_meet;exact⟨rfl,rfl⟩
    ·have T:¬(t:Int)+1<(s.length:Int):=by omega
     obtain rfl:R=false:=by rw[<-I.out.1,List.getElem?_eq_none (by omega)];rfl
     go_wp2;go_meet;exact⟨rfl,rfl⟩
   case rest=>
   obtain⟨rfl,z⟩:=hcut;rw[z];clear z;go_upto_if 110 with fail;go_cut [4,11] (fun s4 s11 K=>s4=.int .i64 (b:Int)/\s11=.int .i64 (if f=true then -1 else 1)/\K=wc0)
   case first=>
    obtain⟨g1,Y,g3⟩:=I.out;cases R with
    |false=>
     have P:=of_decide_eq_false g1;obtain rfl:f=false:=by rw[<-Y];exact decide_eq_false (fun e=>P (.inl e))
     rw[if_neg P]at g3;subst g3;clear P g1 Y;go_wp2;go_meet;exact⟨by go_num,rfl,rfl⟩
    |true=>
     have P:=of_decide_eq_true g1;have d:t+1<s.length:=by
      rcases Nat.lt_or_ge (t+1) s.length with h2|h2
      ·exact h2
      ·rw[List.getElem?_eq_none h2]at P;rcases P with h|h<;>cases h
     have T:(t:Int)+1<(s.length:Int):=by omega
     have ao:((t:Int)+1).toNat=t+1:=by omega
     rw[if_pos P]at g3;subst g3;obtain⟨g,l⟩:∃g,s[t+1]'d=g:=⟨_,rfl⟩
     have o:s[t+1]? =some g:=by rw[zcn s (t+1) d,l]
     rw[o]at Y;by_cases h45:g=45
     ·have u:=zaw s (t+1) d g 45 45 (by decide) l h45;have G:=zap s (t+1) d g 45 45 (by decide) l h45;obtain rfl:f=true:=by rw[<-Y];simp[h45]
      clear l o h45 P g1 Y;go_wp2;go_meet;exact⟨by go_num,rfl,rfl⟩
     ·have u:=zan s (t+1) d g 45 45 (by decide) l h45;have G:=zaq s (t+1) d g 45 45 (by decide) l h45;obtain rfl:f=false:=by rw[<-Y];simp[h45]
      clear l o h45 P g1 Y;go_wp2;go_meet;exact⟨by go_num,rfl,rfl⟩
   case rest=>
   obtain⟨rfl,rfl,z⟩:=hcut;rw[z];clear z I;have au:=hid (fun W=>zc4 s (by omega) b aa W);obtain⟨k,F⟩:∃k:Int,(if f=true then -1 else 1:Int)=k:=⟨_,rfl⟩
   have hsg2:-1<=k/\k<=1:=by rw[<-F];cases f<;>simp
   rw[F]at V ⊢;clear F;go_wp2_with fail;refine(au.out _).mono ?_;rintro e w3 ⟨A9,c9,rfl,N,J⟩;have B:=zqb s b aa;obtain⟨X,hX⟩:∃X,rdg s b=X:=⟨_,rfl⟩
   have ar:Hid (∀v∈vals X,v<10):=hid (by rw[<-hX];exact zcy _ (zd8 _));rw[hX]at N B V ⊢;clear hX;obtain⟨M,hM⟩:∃M,X.length=M:=⟨_,rfl⟩
   have HM:=hid hM;rw[hM]at N B V ⊢;have H:Hid (Blk w3 gb 69 #[.bool false,.slice none 0 0,.int .i64 0]/\Below gb w w3):=hid ⟨HB.out.1.below J HB.out.1.lt,HB.out.2.trans (J.mono (Nat.le_of_lt HB.out.1.lt))⟩;have aw:=hid (HO.out.later J);have an:Hid (OwnRow intL w3 (gb+1) 3 (.slice A9 M c9) (vals X)):=hid (N.lower HB.out.1.lt);clear hM N J;obtain⟨Q,U⟩:∃Q,b+M=Q:=⟨_,rfl⟩
   have Z:=hid U;rw[U]at B V ⊢;clear U;by_cases hM0:M=0
   ·have HF:Hid (r=none):=hid (by rw[HT.out.2.2.2.2.2.2,V.out,if_pos (List.eq_nil_of_length_eq_zero (by rw[HM.out];exact hM0))]);obtain rfl:Q=b:=by have:=Z.out;omega
    clear hM0;have p0:∀j,w3.frozen? ⟨gb,j,none⟩=false:=H.out.1.frozen;obtain⟨q0,q1,q2⟩:=cells3 H.out.1;go_wp2_with fail;have u:=((H.out.1.set_ 0 (.bool false)).set_ 1 (.slice none 0 0)).set_ 2 (.int .i64 0);have e0:=u.cell 0;have e1:=u.cell 1;have e2:=u.cell 2;refine bodyPost_ret (v:=.tuple #[.agg #[.bool false,.slice none 0 0,.int .i64 0],.bool false]) (by rw[results_cell_tmp rfl];go_simp) rfl ?_;rw[HF.out];unfold zcb;rw[HGB.out];exact⟨zeroD,_,rfl,⟨none,0,rfl,OwnRow.nil⟩,fun y h=>(by cases h),((H.out.2.setCell (p:=⟨gb,0,none⟩) (by simp) _).setCell (p:=⟨gb,1,none⟩) (by simp) _).setCell (p:=⟨gb,2,none⟩) (by simp) _⟩
   ·have ag:¬((Q:Int)=(b:Int)):=by have:=Z.out;omega
    have hk2b:((Q:Int)==(b:Int))=false:=by simpa using ag
    obtain⟨Av,cv,aj,ae⟩:=an.out.form;injection aj with e1 e2 e3
    subst e1;have ax:Hid (RowAt intL w3 w3.heap.size A9 (vals X)):=hid ae;have av:Hid (r=if Q=s.length then some (norm neg ds (ev+k*(satv 1000000 X:Int)))else none):=hid (by
     rw[HT.out.2.2.2.2.2.2,V.out,if_neg (fun e=>hM0 (by rw[<-HM.out,e];rfl))])
    clear ae e2 e3 V;go_wp2_with fail;go_loop [14,15] (fun s14 s15=>∃i q:Nat,i<=M/\q<=1000000/\s14=.int .i64 (q:Int)/\s15=.int .i64 (i:Int)/\Hid (q=satv 1000000 (X.take i))) (fun _ s15=>M-(intOf s15).toNat)
    case atStart=>exact⟨0,0,by omega,by omega,rfl,rfl,hid (by simp[satv])⟩
    case round=>
     obtain⟨i,q,hi,hq,rfl,rfl,HQ⟩:=hrel;by_cases hlt:i<M
     ·have ab:(i:Int)<(M:Int):=by omega
      have C:i<X.length:=by rw[HM.out];exact hlt
      obtain⟨ad,rfl,_,y0⟩:=zae ax.out (show i<(vals X).length by rw[zba];exact C);have al:(vals X)[i]'(by rw[zba];exact C)<10:=ar.out _ (List.getElem_mem _);have ac:Hid (satv 1000000 (X.take (i+1))=min (10*q+(vals X)[i]'(by rw[zba];exact C)) 1000000):=hid (by
       rw[List.take_succ_eq_append_getElem C,HQ.out];unfold satv;rw[List.foldl_append];simp[vals])
      obtain⟨x,hx⟩:∃x,(vals X)[i]'(by rw[zba];exact C)=x:=⟨_,rfl⟩
      rw[hx]at y0 al ac;have hxI:(x:Int)<10:=by omega
      have hx0:(0:Int)<=(x:Int):=by omega
      have hqI:(q:Int)<=1000000:=by omega
      have hq0:(0:Int)<=(q:Int):=by omega
      clear hx C;have am:Hid (min (10*q+x) 1000000=satv 1000000 (X.take (i+1))):=hid ac.out.symm;have hiI:(i:Int)<=268435455:=by have:=Z.out;omega
      go_wp2;go_round
      case rel=>exact⟨i+1,min (10*q+x) 1000000,by omega,by omega,by rw[show((min (10*q+x) 1000000:Nat):Int)=min (10*(q:Int)+(x:Int)) 1000000 from by omega],by go_num,am⟩
      case measure=>simp[intOf];omega
     ·have ab:¬(i:Int)<(M:Int):=by omega
      have aq:Hid (q=satv 1000000 X):=hid (by
       have:=HQ.out;rwa[List.take_of_length_le (by have:=HM.out;omega)]at this)
      have hp0:-1000000<=k*(q:Int):=by
       have:k=-1\/k=0\/k=1:=by omega
       rcases this with h|h|h<;>rw[h]<;>omega
      have hp1:k*(q:Int)<=1000000:=by
       have:k=-1\/k=0\/k=1:=by omega
       rcases this with h|h|h<;>rw[h]<;>omega
      have D:Hid (Q<=s.length/\-1152921504606846976<=ev+k*(q:Int)/\ev+k*(q:Int)<=1152921504606846976/\r=if Q=s.length then some (norm neg ds (ev+k*(q:Int)))else none):=hid ⟨B,by omega,by omega,by rw[av.out,aq.out]⟩;go_wp2;go_meet;exact⟨Q,_,rfl,rfl,D,aw,H⟩
 case rest=>
 obtain⟨t2,ev2,rfl,rfl,D,ak,ap⟩:=hcut;refine(‹∀(a:Act) (w_1:World),Code.wp prog _ _ a w_1->_›) _ _ ?_;exact zqd s hl w _ gb n c t2 A neg ev2 ds r HGB (hid ⟨HT.out.1,HT.out.2.2.1,HT.out.2.2.2.1⟩) D ak ap
end Go.Proofs.YtoigpackhninoaaGreatDoor

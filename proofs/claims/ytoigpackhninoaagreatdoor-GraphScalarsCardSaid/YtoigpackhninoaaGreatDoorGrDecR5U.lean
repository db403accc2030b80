import Derived.Test.YtoigpackhninoaaGreatDoorZ09
namespace Go.Proofs.YtoigpackhninoaaGreatDoor
open Gr
open _root_.Go.Proofs.Tryz
open _root_.Go.Lib (hid)
set_option maxRecDepth 100000
set_option maxHeartbeats 16000000
open Go.RowKit
theorem zb7 (s:Gr.Str) (k:Nat) (hk:k<s.length):s[k]? =some (s[k]'hk):=List.getElem?_eq_getElem hk
theorem zpk (s:Gr.Str) (hl:s.length<=268435455) (w wc0:World) (gb n c t:Nat) (A:Option Addr) (neg:Bool) (ev:Int) (ds:List Nat) (r:Option Gr.Dn) (HGB:Hid (w.heap.size=gb))
 (HT:Hid (n=ds.length/\t<=s.length/\ds.length<=536870911/\(∀v∈ds,v<10)/\-268435455<=ev/\ev<=0/\r=expS 1000000 neg ds ev (s.drop t))) (HO:Hid (OwnRow intL wc0 (gb+1) 3 (.slice A n c) ds)) (HB:Hid (Blk wc0 gb 69 #[.bool false,.slice none 0 0,.int .i64 0]/\Below gb w wc0))
 {u1 u3 u7 u9 u10 u11 u12 u13 u14 u15 u16 u17 u18 u19 u20 u21 u22 u23 u24 u25 u26 u27 u28 u29 u30 u31 u32 u33 u34 u35 u36 u37 u38 u39 u40 u41 u42 u43 u44 u45 u46 u47 u48 u49 u50 u51 u52 u53 u54 u55 u56 u57 u58 u59 u60 u61 u62 u63 u64 u65 u66 u67 u68 u69 u70 u71 u72 u73 u74 u75 u76 u77 u78 u79 u80 u81 u82 u83 u84 u85 u86 u87 u88 u89 u90 u91 u92 u93 u94 u95 u96 u97 u98 u99 u100 u101 u102 u103 u104 u105 u106 u107 u108 u109 u110 u111 u112 u113 u114 u115 u116 u117 u118 u119 u120 u121 u122 u123 u124 u125 u126 u127 u128 u129 u130 u131 u132 u133 u134 u135 u136 u137 u138 u139 u140 u141 u142 u143 u144 u145 u146 u147 u148 u149 u150 u151 u152 u153 u154:Value}:
 Code.wp prog (tl 9 (f75.body.getD .skip)) (bodyPost prog f75 (zbu r w)) {tmps:=List.toArray (.string ⟨s.toArray⟩::u1::.pointer (some ⟨gb,0,none⟩)::u3::.int .i64 (t:Int)::.bool neg::.slice A n c::u7::.int .i64 ev::u9::u10::u11::u12::u13::u14::u15::u16::u17::u18::u19::u20::u21::u22::u23::u24::u25::u26::u27::u28::u29::u30::u31::u32::u33::u34::u35::u36::u37::u38::u39::u40::u41::u42::u43::u44::u45::u46::u47::u48::u49::u50::u51::u52::u53::u54::u55::u56::u57::u58::u59::u60::u61::u62::u63::u64::u65::u66::u67::u68::u69::u70::u71::u72::u73::u74::u75::u76::u77::u78::u79::u80::u81::u82::u83::u84::u85::u86::u87::u88::u89::u90::u91::u92::u93::u94::u95::u96::u97::u98::u99::u100::u101::u102::u103::u104::u105::u106::u107::u108::u109::u110::u111::u112::u113::u114::u115::u116::u117::u118::u119::u120::u121::u122::u123::u124::u125::u126::u127::u128::u129::u130::u131::u132::u133::u134::u135::u136::u137::u138::u139::u140::u141::u142::u143::u144::u145::u146::u147::u148::u149::u150::u151::u152::u153::u154::[]),defers:=[]} wc0:=by
 obtain⟨ht1,ht2,ht3⟩:t<=s.length/\-268435455<=ev/\ev<=0:=⟨HT.out.2.1,HT.out.2.2.2.2.1,HT.out.2.2.2.2.2.1⟩
 generalize hc0:tl 9 (f75.body.getD .skip)=c0;simp only[tl,f75,Option.getD_some]at hc0;subst hc0;obtain⟨ex,hex⟩:∃ex,decide (s[t]? =some 101\/s[t]? =some 69)=ex:=⟨_,rfl⟩
 have HEX:=hid hex;clear hex;go_upto_region 17 with fail;go_cut [92] (fun s92 wx=>s92=.bool ex/\wx=wc0)
 case first=>
  by_cases hts:t<s.length
  ·have htsI:(t:Int)<(s.length:Int):=by omega
   obtain⟨c2,hc⟩:∃c2,s[t]'hts=c2:=⟨_,rfl⟩
   have hsa:s[t]? =some c2:=by rw[zb7 s t hts,hc]
   have hdt:=HEX.out;rw[hsa]at hdt;by_cases h101:c2=101
   ·have hb1:=zar s t hts c2 101 101 (by decide) hc h101;have hb2:=zaj s t hts c2 101 101 (by decide) hc h101;obtain rfl:ex=true:=by rw[<-hdt];simp[h101]
    clear hc hsa hdt h101;go_wp2;go_meet;exact⟨rfl,rfl⟩
   ·have hb1:=zah s t hts c2 101 101 (by decide) hc h101;have hb2:=zak s t hts c2 101 101 (by decide) hc h101;by_cases h69:c2=69
    ·have hb3:=zar s t hts c2 69 69 (by decide) hc h69;have hb4:=zaj s t hts c2 69 69 (by decide) hc h69;obtain rfl:ex=true:=by rw[<-hdt];simp[h69]
     clear hc hsa hdt h101 h69 hb1 hb2;go_wp2;go_meet;exact⟨rfl,rfl⟩
    ·have hb3:=zah s t hts c2 69 69 (by decide) hc h69;have hb4:=zak s t hts c2 69 69 (by decide) hc h69;obtain rfl:ex=false:=by rw[<-hdt];simp[h101,h69]
     clear hc hsa hdt h101 h69;go_wp2;go_meet;exact⟨rfl,rfl⟩
  ·have htsI:¬(t:Int)<(s.length:Int):=by omega
   obtain rfl:ex=false:=by rw[<-HEX.out,List.getElem?_eq_none (by omega)];rfl
   go_wp2;go_meet;exact⟨rfl,rfl⟩
 case rest=>
 obtain⟨rfl,hwc⟩:=hcut;rw[hwc];clear hwc;go_upto_if 92 with fail;go_cut [4,8] (fun s4 s8 wx=>∃(t2:Nat) (ev2:Int),s4=.int .i64 (t2:Int)/\s8=.int .i64 ev2/\Hid (t2<=s.length/\-1152921504606846976<=ev2/\ev2<=1152921504606846976/\r=if t2=s.length then some (norm neg ds ev2)else none)/\Hid (OwnRow intL wx (gb+1) 3 (.slice A n c) ds)/\Hid (Blk wx gb 69 #[.bool false,.slice none 0 0,.int .i64 0]/\Below gb w wx))
 case first=>
  cases ex with
  |false=>
   have h1:=of_decide_eq_false HEX.out;have HE2:Hid (t<=s.length/\-1152921504606846976<=ev/\ev<=1152921504606846976/\r=if t=s.length then some (norm neg ds ev)else none):=hid ⟨ht1,by omega,by omega,by
    rw[HT.out.2.2.2.2.2.2,zr8 _ _ _ _ _ _ ht1 (fun e=>h1 (.inl e)) (fun e=>h1 (.inr e))]⟩
   clear h1;go_wp2;go_meet;exact⟨t,ev,rfl,rfl,HE2,HO,HB⟩
  |true=>
   have h1:s[t]? =some 101\/s[t]? =some 69:=of_decide_eq_true HEX.out;have hts:t<s.length:=by
    rcases Nat.lt_or_ge t s.length with h|h
    ·exact h
    ·rw[List.getElem?_eq_none h]at h1;rcases h1 with h1|h1<;>cases h1
   obtain⟨b,hb⟩:∃b,(if s[t+1]? =some 45\/s[t+1]? =some 43 then t+2 else t+1)=b:=⟨_,rfl⟩
   obtain⟨minus,hm⟩:∃minus,decide (s[t+1]? =some 45)=minus:=⟨_,rfl⟩
   have hbl:b<=s.length:=by
    rw[<-hb];split
    ·rename_i h;rcases Nat.lt_or_ge (t+1) s.length with h2|h2
     ·omega
     ·rw[List.getElem?_eq_none h2]at h;rcases h with h|h<;>cases h
    ·omega
   have HX:=hid (zr9 1000000 neg ds ev s t b minus hts h1 hb.symm hm.symm hbl);obtain⟨sg,hsg⟩:∃sg,decide (s[t+1]? =some 45\/s[t+1]? =some 43)=sg:=⟨_,rfl⟩
   have HSG:=hid (And.intro hsg (And.intro hm hb));have htI:(t:Int)<=268435455:=by omega
   clear hsg hm hb h1 HEX;go_upto_region 20 with fail;go_cut [110] (fun s110 wx=>s110=.bool sg/\wx=wc0)
   case first=>
    by_cases ht1:t+1<s.length
    ·have ht1I:(t:Int)+1<(s.length:Int):=by omega
     obtain⟨c2,hc⟩:∃c2,s[t+1]'ht1=c2:=⟨_,rfl⟩
     have hsa:s[t+1]? =some c2:=by rw[zb7 s (t+1) ht1,hc]
     have hdt:=HSG.out.1;rw[hsa]at hdt;have htn:((t:Int)+1).toNat=t+1:=by omega
     by_cases h43:c2=43
     ·have hb1:=zar s (t+1) ht1 c2 43 43 (by decide) hc h43;have hb2:=zaj s (t+1) ht1 c2 43 43 (by decide) hc h43;obtain rfl:sg=true:=by rw[<-hdt];simp[h43]
      clear hc hsa hdt h43;go_wp2;go_meet;exact⟨rfl,rfl⟩
     ·have hb1:=zah s (t+1) ht1 c2 43 43 (by decide) hc h43;have hb2:=zak s (t+1) ht1 c2 43 43 (by decide) hc h43;by_cases h45:c2=45
      ·have hb3:=zar s (t+1) ht1 c2 45 45 (by decide) hc h45;have hb4:=zaj s (t+1) ht1 c2 45 45 (by decide) hc h45;obtain rfl:sg=true:=by rw[<-hdt];simp[h45]
       clear hc hsa hdt h43 h45;go_wp2;go_meet;exact⟨rfl,rfl⟩
      ·have hb3:=zah s (t+1) ht1 c2 45 45 (by decide) hc h45;have hb4:=zak s (t+1) ht1 c2 45 45 (by decide) hc h45;obtain rfl:sg=false:=by rw[<-hdt];simp[h43,h45]
       clear hc hsa hdt h43 h45;go_wp2;go_meet;exact⟨rfl,rfl⟩
    ·have ht1I:¬(t:Int)+1<(s.length:Int):=by omega
     obtain rfl:sg=false:=by rw[<-HSG.out.1,List.getElem?_eq_none (by omega)];rfl
     go_wp2;go_meet;exact⟨rfl,rfl⟩
   case rest=>
   obtain⟨rfl,hwc⟩:=hcut;rw[hwc];clear hwc;go_upto_if 110 with fail;go_cut [4,11] (fun s4 s11 wx=>s4=.int .i64 (b:Int)/\s11=.int .i64 (if minus=true then -1 else 1)/\wx=wc0)
   case first=>
    obtain⟨g1,g2,g3⟩:=HSG.out;cases sg with
    |false=>
     have hh:=of_decide_eq_false g1;obtain rfl:minus=false:=by rw[<-g2];exact decide_eq_false (fun e=>hh (.inl e))
     rw[if_neg hh]at g3;subst g3;clear hh g1 g2;go_wp2;go_meet;exact⟨by go_num,rfl,rfl⟩
    |true=>
     have hh:=of_decide_eq_true g1;have ht1:t+1<s.length:=by
      rcases Nat.lt_or_ge (t+1) s.length with h2|h2
      ·exact h2
      ·rw[List.getElem?_eq_none h2]at hh;rcases hh with h|h<;>cases h
     have ht1I:(t:Int)+1<(s.length:Int):=by omega
     have htn:((t:Int)+1).toNat=t+1:=by omega
     rw[if_pos hh]at g3;subst g3;obtain⟨c2,hc⟩:∃c2,s[t+1]'ht1=c2:=⟨_,rfl⟩
     have hsa:s[t+1]? =some c2:=by rw[zb7 s (t+1) ht1,hc]
     rw[hsa]at g2;by_cases h45:c2=45
     ·have hb3:=zar s (t+1) ht1 c2 45 45 (by decide) hc h45;have hb4:=zaj s (t+1) ht1 c2 45 45 (by decide) hc h45;obtain rfl:minus=true:=by rw[<-g2];simp[h45]
      clear hc hsa h45 hh g1 g2;go_wp2;go_meet;exact⟨by go_num,rfl,rfl⟩
     ·have hb3:=zah s (t+1) ht1 c2 45 45 (by decide) hc h45;have hb4:=zak s (t+1) ht1 c2 45 45 (by decide) hc h45;obtain rfl:minus=false:=by rw[<-g2];simp[h45]
      clear hc hsa h45 hh g1 g2;go_wp2;go_meet;exact⟨by go_num,rfl,rfl⟩
   case rest=>
   obtain⟨rfl,rfl,hwc⟩:=hcut;rw[hwc];clear hwc HSG;have HDG:=hid (fun W=>zco s (by omega) b hbl W);obtain⟨sgn,hsgn⟩:∃sgn:Int,(if minus=true then -1 else 1:Int)=sgn:=⟨_,rfl⟩
   have hsg2:-1<=sgn/\sgn<=1:=by rw[<-hsgn];cases minus<;>simp
   rw[hsgn]at HX ⊢;clear hsgn;go_wp2_with fail;refine(HDG.out _).mono ?_;rintro e w3 ⟨A9,c9,rfl,ho9,hb9⟩;have hle2:=znn s b hbl;obtain⟨X,hX⟩:∃X,rdg s b=X:=⟨_,rfl⟩
   have HXD:Hid (∀v∈vals X,v<10):=hid (by rw[<-hX];exact zcj _ (zdi _));rw[hX]at ho9 hle2 HX ⊢;clear hX;obtain⟨M,hM⟩:∃M,X.length=M:=⟨_,rfl⟩
   have HM:=hid hM;rw[hM]at ho9 hle2 HX ⊢;have HB3:Hid (Blk w3 gb 69 #[.bool false,.slice none 0 0,.int .i64 0]/\Below gb w w3):=hid ⟨HB.out.1.below hb9 HB.out.1.lt,HB.out.2.trans (hb9.mono (Nat.le_of_lt HB.out.1.lt))⟩;have HO3:=hid (HO.out.later hb9);have HO9:Hid (OwnRow intL w3 (gb+1) 3 (.slice A9 M c9) (vals X)):=hid (ho9.lower HB.out.1.lt);clear hM ho9 hb9;obtain⟨k2,hk2⟩:∃k2,b+M=k2:=⟨_,rfl⟩
   have HK2:=hid hk2;rw[hk2]at hle2 HX ⊢;clear hk2;by_cases hM0:M=0
   ·have HF:Hid (r=none):=hid (by rw[HT.out.2.2.2.2.2.2,HX.out,if_pos (List.eq_nil_of_length_eq_zero (by rw[HM.out];exact hM0))]);obtain rfl:k2=b:=by have:=HK2.out;omega
    clear hM0;have p0:∀j,w3.frozen? ⟨gb,j,none⟩=false:=HB3.out.1.frozen;obtain⟨q0,q1,q2⟩:=cells3 HB3.out.1;go_wp2_with fail;have hb3:=((HB3.out.1.set_ 0 (.bool false)).set_ 1 (.slice none 0 0)).set_ 2 (.int .i64 0);have e0:=hb3.cell 0;have e1:=hb3.cell 1;have e2:=hb3.cell 2;refine bodyPost_ret (v:=.tuple #[.agg #[.bool false,.slice none 0 0,.int .i64 0],.bool false]) (by rw[results_cell_tmp rfl];go_simp) rfl ?_;rw[HF.out];unfold zbu;rw[HGB.out];exact⟨zeroD,_,rfl,⟨none,0,rfl,OwnRow.nil⟩,fun y h=>(by cases h),((HB3.out.2.setCell (p:=⟨gb,0,none⟩) (by simp) _).setCell (p:=⟨gb,1,none⟩) (by simp) _).setCell (p:=⟨gb,2,none⟩) (by simp) _⟩
   ·have hk2n:¬((k2:Int)=(b:Int)):=by have:=HK2.out;omega
    have hk2b:((k2:Int)==(b:Int))=false:=by simpa using hk2n
    obtain⟨Av,cv,hv9,hr9⟩:=HO9.out.form;injection hv9 with e1 e2 e3
    subst e1;have HRW:Hid (RowAt intL w3 w3.heap.size A9 (vals X)):=hid hr9;have HXR:Hid (r=if k2=s.length then some (norm neg ds (ev+sgn*(satv 1000000 X:Int)))else none):=hid (by
     rw[HT.out.2.2.2.2.2.2,HX.out,if_neg (fun e=>hM0 (by rw[<-HM.out,e];rfl))])
    clear hr9 e2 e3 HX;go_wp2_with fail;go_loop [14,15] (fun s14 s15=>∃i q:Nat,i<=M/\q<=1000000/\s14=.int .i64 (q:Int)/\s15=.int .i64 (i:Int)/\Hid (q=satv 1000000 (X.take i))) (fun _ s15=>M-(intOf s15).toNat)
    case atStart=>exact⟨0,0,by omega,by omega,rfl,rfl,hid (by simp[satv])⟩
    case round=>
     obtain⟨i,q,hi,hq,rfl,rfl,HQ⟩:=hrel;by_cases hlt:i<M
     ·have hltI:(i:Int)<(M:Int):=by omega
      have hiX:i<X.length:=by rw[HM.out];exact hlt
      obtain⟨ad,rfl,_,y0⟩:=zag HRW.out (show i<(vals X).length by rw[za2];exact hiX);have hx9:(vals X)[i]'(by rw[za2];exact hiX)<10:=HXD.out _ (List.getElem_mem _);have HTS:Hid (satv 1000000 (X.take (i+1))=min (10*q+(vals X)[i]'(by rw[za2];exact hiX)) 1000000):=hid (by
       rw[List.take_succ_eq_append_getElem hiX,HQ.out];unfold satv;rw[List.foldl_append];simp[vals])
      obtain⟨x,hx⟩:∃x,(vals X)[i]'(by rw[za2];exact hiX)=x:=⟨_,rfl⟩
      rw[hx]at y0 hx9 HTS;have hxI:(x:Int)<10:=by omega
      have hx0:(0:Int)<=(x:Int):=by omega
      have hqI:(q:Int)<=1000000:=by omega
      have hq0:(0:Int)<=(q:Int):=by omega
      clear hx hiX;have HN2:Hid (min (10*q+x) 1000000=satv 1000000 (X.take (i+1))):=hid HTS.out.symm;have hiI:(i:Int)<=268435455:=by have:=HK2.out;omega
      go_wp2;go_round
      case rel=>exact⟨i+1,min (10*q+x) 1000000,by omega,by omega,by rw[show((min (10*q+x) 1000000:Nat):Int)=min (10*(q:Int)+(x:Int)) 1000000 from by omega],by go_num,HN2⟩
      case measure=>simp[intOf];omega
     ·have hltI:¬(i:Int)<(M:Int):=by omega
      have HQ2:Hid (q=satv 1000000 X):=hid (by
       have:=HQ.out;rwa[List.take_of_length_le (by have:=HM.out;omega)]at this)
      have hp0:-1000000<=sgn*(q:Int):=by
       have:sgn=-1\/sgn=0\/sgn=1:=by omega
       rcases this with h|h|h<;>rw[h]<;>omega
      have hp1:sgn*(q:Int)<=1000000:=by
       have:sgn=-1\/sgn=0\/sgn=1:=by omega
       rcases this with h|h|h<;>rw[h]<;>omega
      have HE2:Hid (k2<=s.length/\-1152921504606846976<=ev+sgn*(q:Int)/\ev+sgn*(q:Int)<=1152921504606846976/\r=if k2=s.length then some (norm neg ds (ev+sgn*(q:Int)))else none):=hid ⟨hle2,by omega,by omega,by rw[HXR.out,HQ2.out]⟩;go_wp2;go_meet;exact⟨k2,_,rfl,rfl,HE2,HO3,HB3⟩
 case rest=>
 obtain⟨t2,ev2,rfl,rfl,HE2,HO2,HB2⟩:=hcut;refine(‹∀(a:Act) (w_1:World),Code.wp prog _ _ a w_1->_›) _ _ ?_;exact znp s hl w _ gb n c t2 A neg ev2 ds r HGB (hid ⟨HT.out.1,HT.out.2.2.1,HT.out.2.2.2.1⟩) HE2 HO2 HB2
end Go.Proofs.YtoigpackhninoaaGreatDoor

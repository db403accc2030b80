import Derived.Test.YtpgmfihonmoliabGreatDoorZ03
open _root_.Go.RowKit.Below renaming refl->K3
open _root_.Go.Lib renaming hid->K7
open _root_.List renaming getElem?_eq_none->K0,eq_nil_of_length_eq_zero->K1,getElem?_eq_getElem->K4
open _root_.Nat renaming lt_or_ge->K2,le_of_lt->K5,le_refl->K8
open _root_.Go.Proofs.YtpgmfihonmoliabGreatDoor.OwnRow renaming nil->K6
namespace Go.Proofs.YtpgmfihonmoliabGreatDoor
open Gr
open _root_.Go.Proofs.Tryz
open _root_.Go.Lib (hid)
set_option maxRecDepth 100000
set_option maxHeartbeats 16000000
open Go.RowKit
theorem zct (s:Gr.Str) (k:Nat) (hk:k<s.length):s[k]? =some (s[k]'hk):=K4 hk
theorem zun (s:Gr.Str) (hl:s.length<=268435455) (w wc0:World) (gb n c t:Nat) (A:Option Addr) (neg:Bool) (ev:Int) (ds:List Nat) (r:Option Gr.Dn) (HGB:Hid (w.heap.size=gb))
 (HT:Hid (n=ds.length/\t<=s.length/\ds.length<=536870911/\(∀v∈ds,v<10)/\-268435455<=ev/\ev<=0/\r=expS 1000000 neg ds ev (s.drop t))) (HO:Hid (OwnRow intL wc0 (gb+1) 3 (.slice A n c) ds)) (HB:Hid (Blk wc0 gb 133 #[.bool false,.slice none 0 0,.int .i64 0]/\Below gb w wc0))
 {u1 u3 u7 u9 u10 u11 u12 u13 u14 u15 u16 u17 u18 u19 u20 u21 u22 u23 u24 u25 u26 u27 u28 u29 u30 u31 u32 u33 u34 u35 u36 u37 u38 u39 u40 u41 u42 u43 u44 u45 u46 u47 u48 u49 u50 u51 u52 u53 u54 u55 u56 u57 u58 u59 u60 u61 u62 u63 u64 u65 u66 u67 u68 u69 u70 u71 u72 u73 u74 u75 u76 u77 u78 u79 u80 u81 u82 u83 u84 u85 u86 u87 u88 u89 u90 u91 u92 u93 u94 u95 u96 u97 u98 u99 u100 u101 u102 u103 u104 u105 u106 u107 u108 u109 u110 u111 u112 u113 u114 u115 u116 u117 u118 u119 u120 u121 u122 u123 u124 u125 u126 u127 u128 u129 u130 u131 u132 u133 u134 u135 u136 u137 u138 u139 u140 u141 u142 u143 u144 u145 u146 u147 u148 u149 u150 u151 u152 u153 u154:Value}:
 Code.wp prog (tl 9 (f119.body.getD .skip)) (bodyPost prog f119 (zch r w)) {tmps:=List.toArray (.string ⟨s.toArray⟩::u1::.pointer (some ⟨gb,0,none⟩)::u3::.int .i64 (t:Int)::.bool neg::.slice A n c::u7::.int .i64 ev::u9::u10::u11::u12::u13::u14::u15::u16::u17::u18::u19::u20::u21::u22::u23::u24::u25::u26::u27::u28::u29::u30::u31::u32::u33::u34::u35::u36::u37::u38::u39::u40::u41::u42::u43::u44::u45::u46::u47::u48::u49::u50::u51::u52::u53::u54::u55::u56::u57::u58::u59::u60::u61::u62::u63::u64::u65::u66::u67::u68::u69::u70::u71::u72::u73::u74::u75::u76::u77::u78::u79::u80::u81::u82::u83::u84::u85::u86::u87::u88::u89::u90::u91::u92::u93::u94::u95::u96::u97::u98::u99::u100::u101::u102::u103::u104::u105::u106::u107::u108::u109::u110::u111::u112::u113::u114::u115::u116::u117::u118::u119::u120::u121::u122::u123::u124::u125::u126::u127::u128::u129::u130::u131::u132::u133::u134::u135::u136::u137::u138::u139::u140::u141::u142::u143::u144::u145::u146::u147::u148::u149::u150::u151::u152::u153::u154::[]),defers:=[]} wc0:=by
 obtain⟨d,ht2,ht3⟩:t<=s.length/\-268435455<=ev/\ev<=0:=⟨HT.out.2.1,HT.out.2.2.2.2.1,HT.out.2.2.2.2.2.1⟩
 generalize hc0:tl 9 (f119.body.getD .skip)=c0;simp only[tl,f119,Option.getD_some]at hc0;subst hc0;obtain⟨S,ab⟩:∃S,decide (s[t]? =some 101\/s[t]? =some 69)=S:=⟨_,rfl⟩
 have F:=hid ab;clear ab;go_upto_region 17 with fail;go_cut [92] (fun s92 I=>s92=.bool S/\I=wc0)
 case first=>
  by_cases hts:t<s.length
  .have ag:(t:Int)<(s.length:Int):=by omega
   obtain⟨g,k⟩:∃g,s[t]'hts=g:=⟨_,rfl⟩
   have o:s[t]? =some g:=by rw[zct s t hts,k]
   have m:=F.out;rw[o]at m;by_cases h101:g=101
   .have L:=zaz s t hts g 101 101 (by decide) k h101;have P:=zaq s t hts g 101 101 (by decide) k h101;obtain rfl:S=true:=by rw[<-m];simp[h101]
    clear k o m h101;go_wp2;go_meet;exact⟨rfl,rfl⟩
   .have L:=zao s t hts g 101 101 (by decide) k h101;have P:=zar s t hts g 101 101 (by decide) k h101;by_cases h69:g=69
    .have u:=zaz s t hts g 69 69 (by decide) k h69;have D:=zaq s t hts g 69 69 (by decide) k h69;obtain rfl:S=true:=by rw[<-m];simp[h69]
     clear k o m h101 h69 L P;go_wp2;go_meet;exact⟨rfl,rfl⟩
    .have u:=zao s t hts g 69 69 (by decide) k h69;have D:=zar s t hts g 69 69 (by decide) k h69;obtain rfl:S=false:=by rw[<-m];simp[h101,h69]
     clear k o m h101 h69;go_wp2;go_meet;exact⟨rfl,rfl⟩
  .have ag:¬(t:Int)<(s.length:Int):=by omega
   obtain rfl:S=false:=by rw[<-F.out,K0 (by omega)];rfl
   go_wp2;go_meet;exact⟨rfl,rfl⟩
 case rest=>
 obtain⟨rfl,z⟩:=hcut;rw[z];clear z;go_upto_if 92 with fail;go_cut [4,8] (fun s4 s8 I=>∃(t2:Nat) (ev2:Int),s4=.int .i64 (t2:Int)/\s8=.int .i64 ev2/\Hid (t2<=s.length/\-1152921504606846976<=ev2/\ev2<=1152921504606846976/\r=if t2=s.length then some (norm neg ds ev2)else none)/\Hid (OwnRow intL I (gb+1) 3 (.slice A n c) ds)/\Hid (Blk I gb 133 #[.bool false,.slice none 0 0,.int .i64 0]/\Below gb w I))
 case first=>
  cases S with
  |false=>
   have h1:=qqz F.out;have G:Hid (t<=s.length/\-1152921504606846976<=ev/\ev<=1152921504606846976/\r=if t=s.length then some (norm neg ds ev)else none):=hid ⟨d,by omega,by omega,by
    rw[HT.out.2.2.2.2.2.2,zxp _ _ _ _ _ _ d (fun e=>h1 (.inl e)) (fun e=>h1 (.inr e))]⟩
   clear h1;go_wp2;go_meet;exact⟨t,ev,rfl,rfl,G,HO,HB⟩
  |true=>
   have h1:s[t]? =some 101\/s[t]? =some 69:=qqy F.out;have hts:t<s.length:=by
    rcases K2 t s.length with h|h
    .exact h
    .rw[K0 h]at h1;rcases h1 with h1|h1<;>cases h1
   obtain⟨b,hb⟩:∃b,(if s[t+1]? =some 45\/s[t+1]? =some 43 then t+2 else t+1)=b:=⟨_,rfl⟩
   obtain⟨f,hm⟩:∃f,decide (s[t+1]? =some 45)=f:=⟨_,rfl⟩
   have Y:b<=s.length:=by
    rw[<-hb];split
    .rename_i h;rcases K2 (t+1) s.length with h2|h2
     .omega
     .rw[K0 h2]at h;rcases h with h|h<;>cases h
    .omega
   have Z:=hid (zxq 1000000 neg ds ev s t b f hts h1 hb.symm hm.symm Y);obtain⟨R,af⟩:∃R,decide (s[t+1]? =some 45\/s[t+1]? =some 43)=R:=⟨_,rfl⟩
   have N:=hid (And.intro af (And.intro hm hb));have htI:(t:Int)<=268435455:=by omega
   clear af hm hb h1 F;go_upto_region 20 with fail;go_cut [110] (fun s110 I=>s110=.bool R/\I=wc0)
   case first=>
    by_cases d:t+1<s.length
    .have T:(t:Int)+1<(s.length:Int):=by omega
     obtain⟨g,k⟩:∃g,s[t+1]'d=g:=⟨_,rfl⟩
     have o:s[t+1]? =some g:=by rw[zct s (t+1) d,k]
     have m:=N.out.1;rw[o]at m;have ax:((t:Int)+1).toNat=t+1:=by omega
     by_cases h43:g=43
     .have L:=zaz s (t+1) d g 43 43 (by decide) k h43;have P:=zaq s (t+1) d g 43 43 (by decide) k h43;obtain rfl:R=true:=by rw[<-m];simp[h43]
      clear k o m h43;go_wp2;go_meet;exact⟨rfl,rfl⟩
     .have L:=zao s (t+1) d g 43 43 (by decide) k h43;have P:=zar s (t+1) d g 43 43 (by decide) k h43;by_cases h45:g=45
      .have u:=zaz s (t+1) d g 45 45 (by decide) k h45;have D:=zaq s (t+1) d g 45 45 (by decide) k h45;obtain rfl:R=true:=by rw[<-m];simp[h45]
       clear k o m h43 h45;go_wp2;go_meet;exact⟨rfl,rfl⟩
      .have u:=zao s (t+1) d g 45 45 (by decide) k h45;have D:=zar s (t+1) d g 45 45 (by decide) k h45;obtain rfl:R=false:=by rw[<-m];simp[h43,h45]
       clear k o m h43 h45;go_wp2;go_meet;exact⟨rfl,rfl⟩
    .have T:¬(t:Int)+1<(s.length:Int):=by omega
     obtain rfl:R=false:=by rw[<-N.out.1,K0 (by omega)];rfl
     go_wp2;go_meet;exact⟨rfl,rfl⟩
   case rest=>
   obtain⟨rfl,z⟩:=hcut;rw[z];clear z;go_upto_if 110 with fail;go_cut [4,11] (fun s4 s11 I=>s4=.int .i64 (b:Int)/\s11=.int .i64 (if f=true then -1 else 1)/\I=wc0)
   case first=>
    obtain⟨g1,U,g3⟩:=N.out;cases R with
    |false=>
     have O:=qqz g1;obtain rfl:f=false:=by rw[<-U];exact qqx (fun e=>O (.inl e))
     rw[if_neg O]at g3;subst g3;clear O g1 U;go_wp2;go_meet;exact⟨by go_num,rfl,rfl⟩
    |true=>
     have O:=qqy g1;have d:t+1<s.length:=by
      rcases K2 (t+1) s.length with h2|h2
      .exact h2
      .rw[K0 h2]at O;rcases O with h|h<;>cases h
     have T:(t:Int)+1<(s.length:Int):=by omega
     have ax:((t:Int)+1).toNat=t+1:=by omega
     rw[if_pos O]at g3;subst g3;obtain⟨g,k⟩:∃g,s[t+1]'d=g:=⟨_,rfl⟩
     have o:s[t+1]? =some g:=by rw[zct s (t+1) d,k]
     rw[o]at U;by_cases h45:g=45
     .have u:=zaz s (t+1) d g 45 45 (by decide) k h45;have D:=zaq s (t+1) d g 45 45 (by decide) k h45;obtain rfl:f=true:=by rw[<-U];simp[h45]
      clear k o h45 O g1 U;go_wp2;go_meet;exact⟨by go_num,rfl,rfl⟩
     .have u:=zao s (t+1) d g 45 45 (by decide) k h45;have D:=zar s (t+1) d g 45 45 (by decide) k h45;obtain rfl:f=false:=by rw[<-U];simp[h45]
      clear k o h45 O g1 U;go_wp2;go_meet;exact⟨by go_num,rfl,rfl⟩
   case rest=>
   obtain⟨rfl,rfl,z⟩:=hcut;rw[z];clear z N;have al:=hid (fun W=>zdg s (by omega) b Y W);obtain⟨l,E⟩:∃l:Int,(if f=true then -1 else 1:Int)=l:=⟨_,rfl⟩
   have hsg2:-1<=l/\l<=1:=by rw[<-E];cases f<;>simp
   rw[E]at Z ⊢;clear E;go_wp2_with fail;refine(al.out _).mono ?_;rintro e w3 ⟨A9,c9,rfl,J,K⟩;have B:=zro s b Y;obtain⟨X,hX⟩:∃X,rdg s b=X:=⟨_,rfl⟩
   have ao:Hid (∀v∈vals X,v<10):=hid (by rw[<-hX];exact zc9 _ (zek _));rw[hX]at J B Z ⊢;clear hX;obtain⟨M,hM⟩:∃M,X.length=M:=⟨_,rfl⟩
   have HM:=hid hM;rw[hM]at J B Z ⊢;have H:Hid (Blk w3 gb 133 #[.bool false,.slice none 0 0,.int .i64 0]/\Below gb w w3):=hid ⟨HB.out.1.below K HB.out.1.lt,HB.out.2.trans (K.mono (K5 HB.out.1.lt))⟩;have ap:=hid (HO.out.later K);have aw:Hid (OwnRow intL w3 (gb+1) 3 (.slice A9 M c9) (vals X)):=hid (J.lower HB.out.1.lt);clear hM J K;obtain⟨Q,V⟩:∃Q,b+M=Q:=⟨_,rfl⟩
   have aa:=hid V;rw[V]at B Z ⊢;clear V;by_cases hM0:M=0
   .have HF:Hid (r=none):=hid (by rw[HT.out.2.2.2.2.2.2,Z.out,if_pos (K1 (by rw[HM.out];exact hM0))]);obtain rfl:Q=b:=by have:=aa.out;omega
    clear hM0;have p0:∀j,w3.frozen? ⟨gb,j,none⟩=false:=H.out.1.frozen;obtain⟨q0,q1,q2⟩:=cells3 H.out.1;go_wp2_with fail;have u:=((H.out.1.set_ 0 (.bool false)).set_ 1 (.slice none 0 0)).set_ 2 (.int .i64 0);have e0:=u.cell 0;have e1:=u.cell 1;have e2:=u.cell 2;refine bodyPost_ret (v:=.tuple #[.agg #[.bool false,.slice none 0 0,.int .i64 0],.bool false]) (by rw[results_cell_tmp rfl];go_simp) rfl ?_;rw[HF.out];unfold zch;rw[HGB.out];exact⟨zeroD,_,rfl,⟨none,0,rfl,K6⟩,fun y h=>(by cases h),((H.out.2.setCell (p:=⟨gb,0,none⟩) (by simp) _).setCell (p:=⟨gb,1,none⟩) (by simp) _).setCell (p:=⟨gb,2,none⟩) (by simp) _⟩
   .have ac:¬((Q:Int)=(b:Int)):=by have:=aa.out;omega
    have hk2b:((Q:Int)==(b:Int))=false:=by simpa using ac
    obtain⟨Av,cv,an,ah⟩:=aw.out.form;injection an with e1 e2 e3
    subst e1;have av:Hid (RowAt intL w3 w3.heap.size A9 (vals X)):=hid ah;have aj:Hid (r=if Q=s.length then some (norm neg ds (ev+l*(satv 1000000 X:Int)))else none):=hid (by
     rw[HT.out.2.2.2.2.2.2,Z.out,if_neg (fun e=>hM0 (by rw[<-HM.out,e];rfl))])
    clear ah e2 e3 Z;go_wp2_with fail;go_loop [14,15] (fun s14 s15=>∃i q:Nat,i<=M/\q<=1000000/\s14=.int .i64 (q:Int)/\s15=.int .i64 (i:Int)/\Hid (q=satv 1000000 (X.take i))) (fun _ s15=>M-(intOf s15).toNat)
    case atStart=>exact⟨0,0,by omega,by omega,rfl,rfl,hid (by simp[satv])⟩
    case round=>
     obtain⟨i,q,hi,hq,rfl,rfl,HQ⟩:=hrel;by_cases hlt:i<M
     .have ae:(i:Int)<(M:Int):=by omega
      have C:i<X.length:=by rw[HM.out];exact hlt
      obtain⟨ad,rfl,_,y0⟩:=zaf av.out (show i<(vals X).length by rw[zbg];exact C);have aq:(vals X)[i]'(by rw[zbg];exact C)<10:=ao.out _ (List.getElem_mem _);have ai:Hid (satv 1000000 (X.take (i+1))=min (10*q+(vals X)[i]'(by rw[zbg];exact C)) 1000000):=hid (by
       rw[List.take_succ_eq_append_getElem C,HQ.out];unfold satv;rw[List.foldl_append];simp[vals])
      obtain⟨x,hx⟩:∃x,(vals X)[i]'(by rw[zbg];exact C)=x:=⟨_,rfl⟩
      rw[hx]at y0 aq ai;have hxI:(x:Int)<10:=by omega
      have hx0:(0:Int)<=(x:Int):=by omega
      have hqI:(q:Int)<=1000000:=by omega
      have hq0:(0:Int)<=(q:Int):=by omega
      clear hx C;have ar:Hid (min (10*q+x) 1000000=satv 1000000 (X.take (i+1))):=hid ai.out.symm;have hiI:(i:Int)<=268435455:=by have:=aa.out;omega
      go_wp2;go_round
      case rel=>exact⟨i+1,min (10*q+x) 1000000,by omega,by omega,by rw[show((min (10*q+x) 1000000:Nat):Int)=min (10*(q:Int)+(x:Int)) 1000000 from by omega],by go_num,ar⟩
      case measure=>simp[intOf];omega
     .have ae:¬(i:Int)<(M:Int):=by omega
      have ak:Hid (q=satv 1000000 X):=hid (by
       have:=HQ.out;rwa[List.take_of_length_le (by have:=HM.out;omega)]at this)
      have hp0:-1000000<=l*(q:Int):=by
       have:l=-1\/l=0\/l=1:=by omega
       rcases this with h|h|h<;>rw[h]<;>omega
      have hp1:l*(q:Int)<=1000000:=by
       have:l=-1\/l=0\/l=1:=by omega
       rcases this with h|h|h<;>rw[h]<;>omega
      have G:Hid (Q<=s.length/\-1152921504606846976<=ev+l*(q:Int)/\ev+l*(q:Int)<=1152921504606846976/\r=if Q=s.length then some (norm neg ds (ev+l*(q:Int)))else none):=hid ⟨B,by omega,by omega,by rw[aj.out,ak.out]⟩;go_wp2;go_meet;exact⟨Q,_,rfl,rfl,G,ap,H⟩
 case rest=>
 obtain⟨t2,ev2,rfl,rfl,G,am,au⟩:=hcut;refine(‹∀(a:Act) (w_1:World),Code.wp prog _ _ a w_1->_›) _ _ ?_;exact zrq s hl w _ gb n c t2 A neg ev2 ds r HGB (hid ⟨HT.out.1,HT.out.2.2.1,HT.out.2.2.2.1⟩) G am au
theorem zjp (s:Gr.Str) (hl:s.length<=268435455) (w:World):
 Calls prog 119 #[.string ⟨s.toArray⟩] w (zch (numS 1000000 s) w):=by
 obtain⟨r,hr⟩:=ex (numS 1000000 s)
 have HR:=hid hr;rw[hr];clear hr;obtain⟨b,T⟩:=ex (decide (s.head?=some 45))
 obtain⟨a,ha⟩:∃a:Nat,(if b=true then 1 else 0)=a:=⟨_,rfl⟩
 have HA:Hid (a<=s.length/\a<=1/\r=numT 1000000 b (s.drop a)):=hid (by
  rw[<-HR.out,<-ha,<-T];unfold numS;by_cases h:s.head?=some 45
  .rw[if_pos h,qqk h,if_pos rfl];refine⟨?_,by omega,by rw[List.drop_one]⟩;cases s with
   |nil=>cases h
   |cons c l=>simp
  .rw[if_neg h,qqx h];exact⟨by simp,by simp,by simp⟩)
 have aa:Hid (decide (s.head?=some 45)=b/\(if b=true then 1 else 0)=a):=hid ⟨T,ha⟩;clear T ha;go_enter func119,ntmps119;go_upto_region 1 with fail;obtain⟨w1,ao⟩:=ex (w.alloc (.cells #[.bool false,.slice none 0 0,.int .i64 0] 133))
 obtain⟨m,af⟩:=ex w.heap.size
 have U:Hid (Blk w1 m 133 #[.bool false,.slice none 0 0,.int .i64 0]/\Below m w w1):=hid (by rw[<-ao,<-af];exact⟨Blk.new _ _ _,(K3 _ _).alloc (K8 _) _⟩);have al:=hid af;(try rw[ao]);(try rw[af]);clear ao af;go_upto_region 2 with fail;go_cut [5] (fun s5 H=>s5=.bool b/\H=w1)
 case first=>
  by_cases h0:0<s.length
  .have aG:(0:Int)<(s.length:Int):=by omega
   obtain⟨c,d⟩:=ex (s[0]'h0)
   have ap:s.head?=some c:=by rw[List.head?_eq_getElem?,K4 h0,d]
   have Y:=aa.out.1;rw[ap]at Y;by_cases h45:c=45
   .have S:=zaz s 0 h0 c 45 45 (by decide) d h45;have V:=zaq s 0 h0 c 45 45 (by decide) d h45;obtain rfl:b=true:=by rw[<-Y];simp[h45]
    clear d ap Y h45;go_wp2;go_meet;exact⟨rfl,rfl⟩
   .have S:=zao s 0 h0 c 45 45 (by decide) d h45;have V:=zar s 0 h0 c 45 45 (by decide) d h45;obtain rfl:b=false:=by rw[<-Y];simp[h45]
    clear d ap Y h45;go_wp2;go_meet;exact⟨rfl,rfl⟩
  .have aG:¬(0:Int)<(s.length:Int):=by omega
   obtain rfl:b=false:=by
    rw[<-aa.out.1,K1 (show s.length=0 by omega)];rfl
   go_wp2;go_meet;exact⟨rfl,rfl⟩
 case rest=>
 obtain⟨rfl,i⟩:=hcut;rw[i];clear i;go_upto_if 24 with fail;go_cut [4] (fun s4 H=>s4=.int .i64 (a:Int)/\H=w1)
 case first=>
  obtain⟨_,ha⟩:=aa.out;cases b with
  |true=>
   obtain rfl:a=1:=ha.symm;clear ha;go_wp2;go_meet;exact⟨rfl,rfl⟩
  |false=>
   obtain rfl:a=0:=ha.symm;clear ha;go_wp2;go_meet;exact⟨rfl,rfl⟩
 case rest=>
  obtain⟨rfl,i⟩:=hcut;rw[i];clear i aa;obtain⟨aw,ha2,au⟩:=HA.out;have an:=hid au;have ad:=hid (fun W=>zdg s (by omega) a aw W);clear au HA;go_wp2_with fail;refine(ad.out _).mono ?_;rintro e w2 ⟨A6,c6,rfl,ab,am⟩;have ae:=zro s a aw;obtain⟨I,hI⟩:=ex (rdg s a)
  have G:=hid (zxo 1000000 b s a);have ax:Hid (0<I.length->I.head?=s[a]?):=hid (by rw[<-hI];exact zl4 s a);have ar:Hid (∀v∈vals I,v<10):=hid (by rw[<-hI];exact zc9 _ (zek _));rw[hI]at ab ae G ⊢;clear hI;obtain⟨L,hL⟩:=ex I.length
  have HL:=hid hL;rw[hL]at ab ae G ax ⊢;obtain⟨k,hk⟩:=ex (a+L)
  have HK:=hid hk;rw[hk]at ae G ⊢;have o:Hid (Blk w2 m 133 #[.bool false,.slice none 0 0,.int .i64 0]/\Below m w w2):=hid ⟨U.out.1.below am U.out.1.lt,U.out.2.trans (am.mono (K5 U.out.1.lt))⟩;have az:Hid (OwnRow intL w2 (m+1) 3 (.slice A6 L c6) (vals I)):=hid (ab.lower U.out.1.lt);obtain⟨x,ag⟩:∃x,decide (L=0\/(s[a]? =some 48/\1<L))=x:=⟨_,rfl⟩
  have g:=hid ag;clear hL hk ab am ag;go_upto_region 6 with fail;go_cut [45] (fun s45 H=>s45=.bool x/\H=w2)
  case first=>
   by_cases hL0:L=0
   .obtain rfl:x=true:=by rw[<-g.out];simp[hL0]
    obtain rfl:k=a:=by have:=HK.out;omega
    clear hL0;go_wp2;go_meet;exact⟨rfl,rfl⟩
   .have hka:((k:Int)==(a:Int))=false:=by rw[qqq];have:=HK.out;omega
    have hka2:¬((k:Int)=(a:Int)):=by have:=HK.out;omega
    have F:a<s.length:=by have:=HK.out;omega
    have hasI:(a:Int)<(s.length:Int):=by omega
    obtain⟨c,d⟩:=ex (s[a]'F)
    have u:s[a]? =some c:=by rw[zct s a F,d]
    by_cases h48:c=48
    .have S:=zaz s a F c 48 48 (by decide) d h48;have V:=zaq s a F c 48 48 (by decide) d h48;by_cases h1:1<L
     .obtain rfl:x=true:=by rw[<-g.out,u];simp[h48,h1]
      have aD:(a:Int)+1<(k:Int):=by have:=HK.out;omega
      clear d u h48 hL0;go_wp2;go_meet;exact⟨rfl,rfl⟩
     .obtain rfl:x=false:=by rw[<-g.out];simp[h1,hL0]
      have aD:¬(a:Int)+1<(k:Int):=by have:=HK.out;omega
      clear d u h48 hL0;go_wp2;go_meet;exact⟨rfl,rfl⟩
    .have S:=zao s a F c 48 48 (by decide) d h48;have V:=zar s a F c 48 48 (by decide) d h48;obtain rfl:x=false:=by rw[<-g.out,u];simp[h48,hL0]
     clear d u h48 hL0;go_wp2;go_meet;exact⟨rfl,rfl⟩
  case rest=>
  obtain⟨rfl,i⟩:=hcut;rw[i];clear i;cases x with
  |true=>
   have HF:Hid (r=none):=hid (by
    rw[an.out,G.out];have h:=qqy g.out;rw[if_pos];rcases h with h|h
    .exact .inl (K1 (by rw[HL.out];exact h))
    .exact .inr h)
   have p0:∀j,w2.frozen? ⟨m,j,none⟩=false:=o.out.1.frozen;obtain⟨q0,q1,q2⟩:=cells3 o.out.1;go_wp2_with fail;have C:=((o.out.1.set_ 0 (.bool false)).set_ 1 (.slice none 0 0)).set_ 2 (.int .i64 0);have e0:=C.cell 0;have e1:=C.cell 1;have e2:=C.cell 2;refine bodyPost_ret (v:=.tuple #[.agg #[.bool false,.slice none 0 0,.int .i64 0],.bool false]) (by rw[results_cell_tmp rfl];go_simp) rfl ?_;rw[HF.out];unfold zch;rw[al.out];exact⟨zeroD,_,rfl,⟨none,0,rfl,K6⟩,fun y h=>(by cases h),((o.out.2.setCell (p:=⟨m,0,none⟩) (by simp) _).setCell (p:=⟨m,1,none⟩) (by simp) _).setCell (p:=⟨m,2,none⟩) (by simp) _⟩
  |false=>
   have aq:Hid (r=if s[k]? =some 46 then(if rdg s (k+1)=[]then none else expS 1000000 b (vals I++vals (rdg s (k+1))) (-((rdg s (k+1)).length:Int)) (s.drop (k+1+(rdg s (k+1)).length)))else expS 1000000 b (vals I) 0 (s.drop k)):=hid (by
    rw[an.out,G.out,if_neg];have h:=qqz g.out;rintro(h1|h1)
    .exact h (.inl (by rw[<-HL.out,h1];rfl))
    .exact h (.inr h1))
   have hLL:L<=s.length:=by have:=HK.out;omega
   obtain⟨X,ai⟩:=ex (decide (s[k]? =some 46))
   have z:=hid ai;clear ai G an g ax ad;go_upto_region 10 with fail;go_cut [57] (fun s57 H=>s57=.bool X/\H=w2)
   case first=>
    by_cases hks:k<s.length
    .have aA:(k:Int)<(s.length:Int):=by omega
     obtain⟨c,d⟩:=ex (s[k]'hks)
     have u:s[k]? =some c:=by rw[zct s k hks,d]
     have O:=z.out;rw[u]at O;by_cases h46:c=46
     .have S:=zaz s k hks c 46 46 (by decide) d h46;have V:=zaq s k hks c 46 46 (by decide) d h46;obtain rfl:X=true:=by rw[<-O];simp[h46]
      clear d u O h46;go_wp2;go_meet;exact⟨rfl,rfl⟩
     .have S:=zao s k hks c 46 46 (by decide) d h46;have V:=zar s k hks c 46 46 (by decide) d h46;obtain rfl:X=false:=by rw[<-O];simp[h46]
      clear d u O h46;go_wp2;go_meet;exact⟨rfl,rfl⟩
    .have aA:¬(k:Int)<(s.length:Int):=by omega
     obtain rfl:X=false:=by rw[<-z.out,K0 (by omega)];rfl
     go_wp2;go_meet;exact⟨rfl,rfl⟩
   case rest=>
   obtain⟨rfl,i⟩:=hcut;rw[i];clear i;go_upto_if 57 with fail;go_cut [4,6,8] (fun s4 s6 s8 H=>∃(t n:Nat) (ds:List Nat) (ev:Int) (A:Option Addr) (c:Nat),s4=.int .i64 (t:Int)/\s6=.slice A n c/\s8=.int .i64 ev/\Hid (n=ds.length/\t<=s.length/\ds.length<=536870911/\(∀v∈ds,v<10)/\-268435455<=ev/\ev<=0/\r=expS 1000000 b ds ev (s.drop t))/\Hid (OwnRow intL H (m+1) 3 (.slice A n c) ds)/\Hid (Blk H m 133 #[.bool false,.slice none 0 0,.int .i64 0]/\Below m w H))
   case first=>
    cases X with
    |false=>
     have f:¬s[k]? =some 46:=qqz z.out;have HT:Hid (L=(vals I).length/\k<=s.length/\(vals I).length<=536870911/\(∀v∈vals I,v<10)/\(-268435455:Int)<=0/\(0:Int)<=0/\r=expS 1000000 b (vals I) 0 (s.drop k)):=hid ⟨by rw[zbg,HL.out],ae,by rw[zbg,HL.out];omega,ar.out,by omega,by omega,by rw[aq.out,if_neg f]⟩;clear f;go_wp2;go_meet;exact⟨k,L,vals I,0,A6,c6,rfl,rfl,rfl,HT,az,o⟩
    |true=>
     have f:s[k]? =some 46:=qqy z.out;have hks:k<s.length:=by
      rcases K2 k s.length with h|h
      .exact h
      .rw[K0 h]at f;cases f
     have N:Hid (r=if rdg s (k+1)=[]then none else expS 1000000 b (vals I++vals (rdg s (k+1))) (-((rdg s (k+1)).length:Int)) (s.drop (k+1+(rdg s (k+1)).length))):=hid (by rw[aq.out,if_pos f]);have ak:=fun W=>zdg s (by omega) (k+1) (by omega) W
     rw[show((k+1:Nat):Int)=(k:Int)+1 from by omega]at ak;have ad:=hid ak;have hkI:(k:Int)<=268435455:=by omega
     clear ak f aq z;go_wp2_with fail;refine(ad.out _).mono ?_;rintro e w3 ⟨A9,c9,rfl,Z,ac⟩;have E:=zro s (k+1) (by omega);obtain⟨J,hJ⟩:=ex (rdg s (k+1))
     have aH:Hid (∀v∈vals J,v<10):=hid (by rw[<-hJ];exact zc9 _ (zek _));rw[hJ]at Z E N ⊢;clear hJ;obtain⟨M,hM⟩:=ex J.length
     have HM:=hid hM;rw[hM]at Z E N ⊢;have B:Hid (Blk w3 m 133 #[.bool false,.slice none 0 0,.int .i64 0]/\Below m w w3):=hid ⟨o.out.1.below ac o.out.1.lt,o.out.2.trans (ac.mono (K5 o.out.1.lt))⟩;have Q:=hid (az.out.later ac);have aJ:Hid (OwnRow intL w3 (m+1) 3 (.slice A9 M c9) (vals J)):=hid (Z.lower o.out.1.lt);clear hM Z ac;obtain⟨k2,aj⟩:=ex (k+1+M)
     have D:=hid aj;rw[aj]at E N ⊢;clear aj;by_cases hM0:M=0
     .have HF:Hid (r=none):=hid (by rw[N.out,if_pos (K1 (by rw[HM.out];exact hM0))]);have K:(k2:Int)=(k:Int)+1:=by have:=D.out;omega
      have ay:((k2:Int)==(k:Int)+1)=true:=by simpa using K
      have HK2E:=hid K;clear K;have p0:∀j,w3.frozen? ⟨m,j,none⟩=false:=B.out.1.frozen;obtain⟨q0,q1,q2⟩:=cells3 B.out.1;go_wp2_with fail;have C:=((B.out.1.set_ 0 (.bool false)).set_ 1 (.slice none 0 0)).set_ 2 (.int .i64 0);have e0:=C.cell 0;have e1:=C.cell 1;have e2:=C.cell 2;refine bodyPost_ret (v:=.tuple #[.agg #[.bool false,.slice none 0 0,.int .i64 0],.bool false]) (by rw[results_cell_tmp rfl];go_simp) rfl ?_;rw[HF.out];unfold zch;rw[al.out];exact⟨zeroD,_,rfl,⟨none,0,rfl,K6⟩,fun y h=>(by cases h),((B.out.2.setCell (p:=⟨m,0,none⟩) (by simp) _).setCell (p:=⟨m,1,none⟩) (by simp) _).setCell (p:=⟨m,2,none⟩) (by simp) _⟩
     .have ah:¬((k2:Int)=(k:Int)+1):=by have:=D.out;omega
      have ay:((k2:Int)==(k:Int)+1)=false:=by simpa using ah
      obtain⟨Av,cv,aE,aB⟩:=aJ.out.form;injection aE with e1 e2 e3
      subst e1;have aI:Hid (RowAt intL w3 w3.heap.size A9 (vals J)):=hid aB;have R:Hid ((vals I).length=L/\(vals J).length=M):=hid ⟨by rw[zbg,HL.out],by rw[zbg,HM.out]⟩;clear aB e2 e3 hM0;go_upto_region 14 with fail;go_wp2_with (at_builtin;go_must (refine zab _ rfl (.tmp 70) (.tmp 71) 35 3 8 rfl intT (m+1) (.slice A6 L c6) (vals I) rfl Q.out w3.heap.size A9 c9 (vals J) ?_ aI.out ?_ ?_ ?_))
      any_goals (first| (rw[R.out.2];rfl)| (rw[R.out.1,R.out.2];have:=D.out;omega)| (have:=B.out.1.lt;omega))
      intro v' w4 P hg aC;have aF:Hid (Blk w4 m 133 #[.bool false,.slice none 0 0,.int .i64 0]/\Below m w w4):=hid ⟨zbk B.out.1 Q.out hg (Nat.lt_succ_self _),B.out.2.trans ((Q.out.grown_below hg (by have:=B.out.1.lt;omega)).mono (by omega))⟩;obtain⟨A4,c4,av,_⟩:=P.form;obtain⟨q,hq⟩:=ex ((vals I++vals J).length)
      rw[hq]at av;subst av;have aK:=hid P;have HT:Hid (q=(vals I++vals J).length/\k2<=s.length/\(vals I++vals J).length<=536870911/\(∀v∈vals I++vals J,v<10)/\(-268435455:Int)<=-(M:Int)/\-(M:Int)<=0/\r=expS 1000000 b (vals I++vals J) (-(M:Int)) (s.drop k2)):=hid ⟨hq.symm,E,by rw[List.length_append,R.out.1,R.out.2];have:=D.out;omega,fun v hv=>(List.mem_append.1 hv).elim (ar.out v) (aH.out v),by have:=D.out;omega,by omega,by
       have h1:=N.out;rw[if_neg (by intro e;have h2:=HM.out;rw[e]at h2;have:=D.out;exact ah (by simp at h2;omega))]at h1;exact h1⟩
      have hMI:(M:Int)<=268435455:=by have:=D.out;omega
      clear P hg aC hq;go_wp2;go_meet;exact⟨k2,q,_,_,A4,c4,rfl,rfl,rfl,HT,aK,aF⟩
   case rest=>
   obtain⟨t,n,ds,ev,A,c,rfl,rfl,rfl,HT,HO,HB⟩:=hcut;refine(‹∀(a:Act) (w_1:World),Code.wp prog _ _ a w_1->_›) _ _ ?_;exact zun s hl w _ m n c t A b ev ds r al HT HO HB
theorem zug (y:Int) (w:World):
 Calls prog 145 #[.int .i64 y] w fun e w'=>e=.returned (.bool (Cal.leapB y))/\w=w':=by
 go_enter func145,ntmps145;go_wp2
 all_goals go_ret
 all_goals exact⟨zs7 (by simp[Cal.leapB, *]),rfl⟩
theorem zbt (y m:Int) (_h1:1<=m) (_h2:m<=12) (w:World):
 Calls prog 115 #[.int .i64 y,.int .i64 m] w fun e w'=>e=.returned (.int .i64 (Cal.dim y m))/\Below w.heap.size w w':=by
 have a:m=1\/m=2\/m=3\/m=4\/m=5\/m=6\/m=7\/m=8\/m=9\/m=10\/m=11\/m=12:=by omega
 rcases a with rfl|rfl|rfl|rfl|rfl|rfl|rfl|rfl|rfl|rfl|rfl|rfl
 all_goals
  go_enter func115,ntmps115;go_wp2_with (go_at_call 145;refine(zug _ _).mono ?_;rintro e w' ⟨rfl,rfl⟩)
  all_goals go_ret
  all_goals exact⟨zot (by simp[Cal.dim,Cal.lp, *]),(K3 _ _).alloc (K8 _) _⟩
theorem zfq (y:Int) (h0:0<=y) (h1:y<=20000) (w:World):
 Calls prog 116 #[.int .i64 y] w fun e w'=>e=.returned (.int .i64 (Cal.fst y))/\w=w':=by
 go_enter func116,ntmps116;go_wp2;go_ret;exact⟨zot (by unfold Cal.fst;omega),rfl⟩
theorem zuh {k k':IntKind} {a b a' b':Int} (h:a=b) (h':a'=b'):Ending.returned (.tuple #[.int k a,.int k' a'])=.returned (.tuple #[.int k b,.int k' b']):=by rw[h,h']
theorem zxh (y m d:Int) (hv:Cal.vld y m d=false) (w:World):
 Calls prog 88 #[.int .i64 y,.int .i64 m,.int .i64 d] w fun e w'=>e=.returned (.tuple #[.int .i64 0,.int .i64 13])/\Below w.heap.size w w':=by
 have a:y<0\/(0<=y/\9999<y)\/(0<=y/\y<=9999/\m<1)\/(0<=y/\y<=9999/\1<=m/\12<m)\/(0<=y/\y<=9999/\1<=m/\m<=12/\d<1)\/(0<=y/\y<=9999/\1<=m/\m<=12/\1<=d/\Cal.dim y m<d):=by
  simp[Cal.vld]at hv;omega
 clear hv;rcases a with h|⟨h1,h2⟩|⟨h1,h2,h3⟩|⟨h1,h2,h3,h4⟩|⟨h1,h2,h3,h4,h5⟩|⟨h1,h2,h3,h4,h5,h6⟩
 all_goals
  go_enter func88,ntmps88;go_wp2_with (go_at_call 115;refine(zbt _ _ (by omega) (by omega) _).mono ?_;rintro e w' ⟨rfl,b⟩);go_ret2;refine⟨rfl,?_⟩
  first|exact K3 _ _|exact b
theorem zl2 (y m d:Int) (hv:Cal.vld y m d=true) (w:World):
 Calls prog 88 #[.int .i64 y,.int .i64 m,.int .i64 d] w fun e w'=>e=.returned (.tuple #[.int .i64 (Cal.num y m d),.int .i64 0])/\Below w.heap.size w w':=by
 have g:=Cal.zqg hv;have hd:=Cal.zy1 y m;have hf:=Cal.zyz y (by omega) (by omega);clear hv;obtain⟨h1,h2,h3,h4,h5,h6⟩:=g;go_enter func88,ntmps88;go_wp2_with (first| (go_at_call 115;refine(zbt _ _ (by omega) (by omega) _).mono ?_;rintro e w1 ⟨rfl,b⟩)| (go_at_call 116;refine(zfq _ (by omega) (by omega) _).mono ?_;rintro e w' ⟨rfl,rfl⟩));go_loopw [8,9] (fun n i wr=>∃k:Int,1<=k/\k<=m/\i=.int .i64 k/\n=.int .i64 (Cal.fst y+d-1-719528+Cal.cum y k)/\Below w.heap.size w wr) (fun _ i _=>(13-intOf i).toNat)
 case atStart=>exact⟨1,by omega,by omega,rfl,by simp[Cal.zz2],b⟩
 case round=>
  obtain⟨k,hk1,hk2,rfl,rfl,c⟩:=hrel;have h:=c.size;by_cases hlt:k<m
  .have cb:=Cal.zy3 y k;have db:=Cal.zy1 y k;have f:=Cal.zho y k (by omega) (by omega);have j:=K7 f;clear f;go_wp2_with (go_at_call 115;refine(zbt _ _ (by omega) (by omega) _).mono ?_;rintro e w2 ⟨rfl,a⟩);go_roundw
   case rel=>exact⟨k+1,by omega,by omega,rfl,by rw[j.out];exact congrArg (Value.int .i64) (by omega),zcu c h a⟩
   case measure=>simp[intOf];omega
  .obtain rfl:k=m:=by omega
   go_wp2;go_ret2;exact⟨zuh (by unfold Cal.num;omega) rfl,c⟩
def DateIs (n:Int) (B:Nat) (w:World) (e:Ending) (w':World):Prop:=
 ∃y m d:Int,e=.returned (.tuple #[.int .i64 y,.int .i64 m,.int .i64 d,.int .i64 0])/\Cal.vld y m d=true/\Cal.num y m d=n/\Below B w w'
theorem zui (n:Int) (h1:-719528<=n) (h2:n<=2932896) (w:World):
 Calls prog 89 #[.int .i64 n] w (DateIs n w.heap.size w):=by
 have l:=Cal.zy0 (n+719528) (by omega);go_enter func89,ntmps89;go_wp2;go_loop [7] (fun t=>∃y:Int,0<=y/\y<=9999/\Cal.fst y<=n+719528/\t=.int .i64 y) (fun t=>(9999-intOf t).toNat)
 case atStart=>exact⟨_,by omega,by omega,l,rfl⟩
 case round=>
  obtain⟨y,h,hy2,hy3,rfl⟩:=hrel;have j:=Cal.zlq y h;have p:=K7 j;clear j l;have hl:=Cal.zyy y;have bd:=Cal.zyz y (by omega) (by omega);have bd':=Cal.zyz (y+1) (by omega) (by omega);by_cases hc:Cal.fst (y+1)<=n+719528
  .have hy4:y<9999:=by
    have:=Cal.zqf;by_cases e:y=9999
    .subst e;rw[show(9999:Int)+1=10000 from rfl]at hc;omega
    .omega
   go_wp2_with (go_at_call 116;refine(zfq _ (by omega) (by omega) _).mono ?_;rintro e q ⟨rfl,rfl⟩);go_round
   case rel=>exact⟨y+1,by omega,by omega,hc,rfl⟩
   case measure=>simp[intOf];omega
  .go_wp2_with (go_at_call 116;refine(zfq _ (by omega) (by omega) _).mono ?_;rintro e q ⟨rfl,rfl⟩);go_loopw [6,8] (fun r k wr=>∃m:Int,1<=m/\m<=12/\k=.int .i64 m/\0<=n+719528-Cal.fst y-Cal.cum y m/\r=.int .i64 (n+719528-Cal.fst y-Cal.cum y m)/\Below w.heap.size w wr) (fun _ k _=>(12-intOf k).toNat)
   case atStart=>exact⟨1,by omega,by omega,rfl,by simp[Cal.zz2];omega,by simp[Cal.zz2],K3 _ _⟩
   case round=>
    obtain⟨m,f,b,rfl,hr,rfl,g⟩:=hrel;have i:=g.size;have cb:=Cal.zy3 y m;have db:=Cal.zy1 y m;have o:=Cal.zho y m f b;have c:=K7 o;clear o;by_cases hd:Cal.dim y m<=n+719528-Cal.fst y-Cal.cum y m
    .have hm4:m<12:=by
      by_cases e:m=12
      .subst e;have h1:=c.out;have h2:=p.out;have h3:=Cal.zy4 y;rw[show(12:Int)+1=13 from rfl]at h1;omega
      .omega
     go_wp2_with fail;refine(zbt _ _ (by omega) (by omega) _).mono ?_;rintro e s ⟨rfl,a⟩;have hz2:=a.size;go_wp2_with fail;refine(zbt _ _ (by omega) (by omega) _).mono ?_;rintro e w3 ⟨rfl,d⟩;go_wp2;go_roundw
     case rel=>exact⟨m+1,by omega,by omega,rfl,by rw[c.out];omega,by rw[c.out];exact congrArg (Value.int .i64) (by omega),zcu (zcu g i a) (by omega) d⟩
     case measure=>simp[intOf];omega
    .go_wp2_with fail;refine(zbt _ _ (by omega) (by omega) _).mono ?_;rintro e s ⟨rfl,a⟩;go_wp2_with fail;go_returns;refine⟨y,m,n+719528-Cal.fst y-Cal.cum y m+1,rfl,Cal.z0g (by omega),by unfold Cal.num;omega,zcu g i a⟩
end Go.Proofs.YtpgmfihonmoliabGreatDoor

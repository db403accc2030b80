import Derived.Test.YtoigpackhninoaaGreatDoorGrDecR5U
namespace Go.Proofs.YtoigpackhninoaaGreatDoor
open Gr
open _root_.Go.Proofs.Tryz
open _root_.Go.Lib (hid)
set_option maxRecDepth 100000
set_option maxHeartbeats 16000000
open Go.RowKit
theorem zg6 (s:Gr.Str) (hl:s.length<=268435455) (w:World):
 Calls prog 75 #[.string ⟨s.toArray⟩] w (zbu (numS 1000000 s) w):=by
 obtain⟨r,hr⟩:=ex (numS 1000000 s)
 have HR:=hid hr;rw[hr];clear hr;obtain⟨neg,hneg⟩:=ex (decide (s.head?=some 45))
 obtain⟨a,ha⟩:∃a:Nat,(if neg=true then 1 else 0)=a:=⟨_,rfl⟩
 have HA:Hid (a<=s.length/\a<=1/\r=numT 1000000 neg (s.drop a)):=hid (by
  rw[<-HR.out,<-ha,<-hneg];unfold numS;by_cases h:s.head?=some 45
  ·rw[if_pos h,decide_eq_true h,if_pos rfl];refine⟨?_,by omega,by rw[List.drop_one]⟩;cases s with
   |nil=>cases h
   |cons c l=>simp
  ·rw[if_neg h,decide_eq_false h];exact⟨by simp,by simp,by simp⟩)
 have HNA:Hid (decide (s.head?=some 45)=neg/\(if neg=true then 1 else 0)=a):=hid ⟨hneg,ha⟩;clear hneg ha;go_enter func75,ntmps75;go_upto_region 1 with fail;obtain⟨w1,hw1⟩:=ex (w.alloc (.cells #[.bool false,.slice none 0 0,.int .i64 0] 69))
 obtain⟨gb,hgb⟩:=ex w.heap.size
 have HB1:Hid (Blk w1 gb 69 #[.bool false,.slice none 0 0,.int .i64 0]/\Below gb w w1):=hid (by rw[<-hw1,<-hgb];exact⟨Blk.new _ _ _,(Below.refl _ _).alloc (Nat.le_refl _) _⟩);have HGB:=hid hgb;(try rw[hw1]);(try rw[hgb]);clear hw1 hgb;go_upto_region 2 with fail;go_cut [5] (fun s5 wx=>s5=.bool neg/\wx=w1)
 case first=>
  by_cases h0:0<s.length
  ·have h0I:(0:Int)<(s.length:Int):=by omega
   obtain⟨c,hc⟩:=ex (s[0]'h0)
   have hhd:s.head?=some c:=by rw[List.head?_eq_getElem?,List.getElem?_eq_getElem h0,hc]
   have hna:=HNA.out.1;rw[hhd]at hna;by_cases h45:c=45
   ·have hb1:=zar s 0 h0 c 45 45 (by decide) hc h45;have hb2:=zaj s 0 h0 c 45 45 (by decide) hc h45;obtain rfl:neg=true:=by rw[<-hna];simp[h45]
    clear hc hhd hna h45;go_wp2;go_meet;exact⟨rfl,rfl⟩
   ·have hb1:=zah s 0 h0 c 45 45 (by decide) hc h45;have hb2:=zak s 0 h0 c 45 45 (by decide) hc h45;obtain rfl:neg=false:=by rw[<-hna];simp[h45]
    clear hc hhd hna h45;go_wp2;go_meet;exact⟨rfl,rfl⟩
  ·have h0I:¬(0:Int)<(s.length:Int):=by omega
   obtain rfl:neg=false:=by
    rw[<-HNA.out.1,List.eq_nil_of_length_eq_zero (show s.length=0 by omega)];rfl
   go_wp2;go_meet;exact⟨rfl,rfl⟩
 case rest=>
 obtain⟨rfl,hwc⟩:=hcut;rw[hwc];clear hwc;go_upto_if 24 with fail;go_cut [4] (fun s4 wx=>s4=.int .i64 (a:Int)/\wx=w1)
 case first=>
  obtain⟨_,ha⟩:=HNA.out;cases neg with
  |true=>
   obtain rfl:a=1:=ha.symm;clear ha;go_wp2;go_meet;exact⟨rfl,rfl⟩
  |false=>
   obtain rfl:a=0:=ha.symm;clear ha;go_wp2;go_meet;exact⟨rfl,rfl⟩
 case rest=>
  obtain⟨rfl,hwc⟩:=hcut;rw[hwc];clear hwc HNA;obtain⟨ha1,ha2,hra⟩:=HA.out;have HRA:=hid hra;have HDG:=hid (fun W=>zco s (by omega) a ha1 W);clear hra HA;go_wp2_with fail;refine(HDG.out _).mono ?_;rintro e w2 ⟨A6,c6,rfl,ho6,hb6⟩;have hle:=znn s a ha1;obtain⟨I,hI⟩:=ex (rdg s a)
  have HAT:=hid (zr7 1000000 neg s a);have HIH:Hid (0<I.length->I.head?=s[a]?):=hid (by rw[<-hI];exact zjb s a);have HID:Hid (∀v∈vals I,v<10):=hid (by rw[<-hI];exact zcj _ (zdi _));rw[hI]at ho6 hle HAT ⊢;clear hI;obtain⟨L,hL⟩:=ex I.length
  have HL:=hid hL;rw[hL]at ho6 hle HAT HIH ⊢;obtain⟨k,hk⟩:=ex (a+L)
  have HK:=hid hk;rw[hk]at hle HAT ⊢;have HB2:Hid (Blk w2 gb 69 #[.bool false,.slice none 0 0,.int .i64 0]/\Below gb w w2):=hid ⟨HB1.out.1.below hb6 HB1.out.1.lt,HB1.out.2.trans (hb6.mono (Nat.le_of_lt HB1.out.1.lt))⟩;have HO6:Hid (OwnRow intL w2 (gb+1) 3 (.slice A6 L c6) (vals I)):=hid (ho6.lower HB1.out.1.lt);obtain⟨bad,hbad⟩:∃bad,decide (L=0\/(s[a]? =some 48/\1<L))=bad:=⟨_,rfl⟩
  have HBAD:=hid hbad;clear hL hk ho6 hb6 hbad;go_upto_region 6 with fail;go_cut [45] (fun s45 wx=>s45=.bool bad/\wx=w2)
  case first=>
   by_cases hL0:L=0
   ·obtain rfl:bad=true:=by rw[<-HBAD.out];simp[hL0]
    obtain rfl:k=a:=by have:=HK.out;omega
    clear hL0;go_wp2;go_meet;exact⟨rfl,rfl⟩
   ·have hka:((k:Int)==(a:Int))=false:=by rw[beq_eq_false_iff_ne];have:=HK.out;omega
    have hka2:¬((k:Int)=(a:Int)):=by have:=HK.out;omega
    have has:a<s.length:=by have:=HK.out;omega
    have hasI:(a:Int)<(s.length:Int):=by omega
    obtain⟨c,hc⟩:=ex (s[a]'has)
    have hsa:s[a]? =some c:=by rw[zb7 s a has,hc]
    by_cases h48:c=48
    ·have hb1:=zar s a has c 48 48 (by decide) hc h48;have hb2:=zaj s a has c 48 48 (by decide) hc h48;by_cases h1:1<L
     ·obtain rfl:bad=true:=by rw[<-HBAD.out,hsa];simp[h48,h1]
      have h1I:(a:Int)+1<(k:Int):=by have:=HK.out;omega
      clear hc hsa h48 hL0;go_wp2;go_meet;exact⟨rfl,rfl⟩
     ·obtain rfl:bad=false:=by rw[<-HBAD.out];simp[h1,hL0]
      have h1I:¬(a:Int)+1<(k:Int):=by have:=HK.out;omega
      clear hc hsa h48 hL0;go_wp2;go_meet;exact⟨rfl,rfl⟩
    ·have hb1:=zah s a has c 48 48 (by decide) hc h48;have hb2:=zak s a has c 48 48 (by decide) hc h48;obtain rfl:bad=false:=by rw[<-HBAD.out,hsa];simp[h48,hL0]
     clear hc hsa h48 hL0;go_wp2;go_meet;exact⟨rfl,rfl⟩
  case rest=>
  obtain⟨rfl,hwc⟩:=hcut;rw[hwc];clear hwc;cases bad with
  |true=>
   have HF:Hid (r=none):=hid (by
    rw[HRA.out,HAT.out];have h:=of_decide_eq_true HBAD.out;rw[if_pos];rcases h with h|h
    ·exact .inl (List.eq_nil_of_length_eq_zero (by rw[HL.out];exact h))
    ·exact .inr h)
   have p0:∀j,w2.frozen? ⟨gb,j,none⟩=false:=HB2.out.1.frozen;obtain⟨q0,q1,q2⟩:=cells3 HB2.out.1;go_wp2_with fail;have hb3:=((HB2.out.1.set_ 0 (.bool false)).set_ 1 (.slice none 0 0)).set_ 2 (.int .i64 0);have e0:=hb3.cell 0;have e1:=hb3.cell 1;have e2:=hb3.cell 2;refine bodyPost_ret (v:=.tuple #[.agg #[.bool false,.slice none 0 0,.int .i64 0],.bool false]) (by rw[results_cell_tmp rfl];go_simp) rfl ?_;rw[HF.out];unfold zbu;rw[HGB.out];exact⟨zeroD,_,rfl,⟨none,0,rfl,OwnRow.nil⟩,fun y h=>(by cases h),((HB2.out.2.setCell (p:=⟨gb,0,none⟩) (by simp) _).setCell (p:=⟨gb,1,none⟩) (by simp) _).setCell (p:=⟨gb,2,none⟩) (by simp) _⟩
  |false=>
   have HR2:Hid (r=if s[k]? =some 46 then(if rdg s (k+1)=[]then none else expS 1000000 neg (vals I++vals (rdg s (k+1))) (-((rdg s (k+1)).length:Int)) (s.drop (k+1+(rdg s (k+1)).length)))else expS 1000000 neg (vals I) 0 (s.drop k)):=hid (by
    rw[HRA.out,HAT.out,if_neg];have h:=of_decide_eq_false HBAD.out;rintro(h1|h1)
    ·exact h (.inl (by rw[<-HL.out,h1];rfl))
    ·exact h (.inr h1))
   have hLL:L<=s.length:=by have:=HK.out;omega
   obtain⟨dot,hdot⟩:=ex (decide (s[k]? =some 46))
   have HDOT:=hid hdot;clear hdot HAT HRA HBAD HIH HDG;go_upto_region 10 with fail;go_cut [57] (fun s57 wx=>s57=.bool dot/\wx=w2)
   case first=>
    by_cases hks:k<s.length
    ·have hksI:(k:Int)<(s.length:Int):=by omega
     obtain⟨c,hc⟩:=ex (s[k]'hks)
     have hsa:s[k]? =some c:=by rw[zb7 s k hks,hc]
     have hdt:=HDOT.out;rw[hsa]at hdt;by_cases h46:c=46
     ·have hb1:=zar s k hks c 46 46 (by decide) hc h46;have hb2:=zaj s k hks c 46 46 (by decide) hc h46;obtain rfl:dot=true:=by rw[<-hdt];simp[h46]
      clear hc hsa hdt h46;go_wp2;go_meet;exact⟨rfl,rfl⟩
     ·have hb1:=zah s k hks c 46 46 (by decide) hc h46;have hb2:=zak s k hks c 46 46 (by decide) hc h46;obtain rfl:dot=false:=by rw[<-hdt];simp[h46]
      clear hc hsa hdt h46;go_wp2;go_meet;exact⟨rfl,rfl⟩
    ·have hksI:¬(k:Int)<(s.length:Int):=by omega
     obtain rfl:dot=false:=by rw[<-HDOT.out,List.getElem?_eq_none (by omega)];rfl
     go_wp2;go_meet;exact⟨rfl,rfl⟩
   case rest=>
   obtain⟨rfl,hwc⟩:=hcut;rw[hwc];clear hwc;go_upto_if 57 with fail;go_cut [4,6,8] (fun s4 s6 s8 wx=>∃(t n:Nat) (ds:List Nat) (ev:Int) (A:Option Addr) (c:Nat),s4=.int .i64 (t:Int)/\s6=.slice A n c/\s8=.int .i64 ev/\Hid (n=ds.length/\t<=s.length/\ds.length<=536870911/\(∀v∈ds,v<10)/\-268435455<=ev/\ev<=0/\r=expS 1000000 neg ds ev (s.drop t))/\Hid (OwnRow intL wx (gb+1) 3 (.slice A n c) ds)/\Hid (Blk wx gb 69 #[.bool false,.slice none 0 0,.int .i64 0]/\Below gb w wx))
   case first=>
    cases dot with
    |false=>
     have hd46:¬s[k]? =some 46:=of_decide_eq_false HDOT.out;have HT:Hid (L=(vals I).length/\k<=s.length/\(vals I).length<=536870911/\(∀v∈vals I,v<10)/\(-268435455:Int)<=0/\(0:Int)<=0/\r=expS 1000000 neg (vals I) 0 (s.drop k)):=hid ⟨by rw[za2,HL.out],hle,by rw[za2,HL.out];omega,HID.out,by omega,by omega,by rw[HR2.out,if_neg hd46]⟩;clear hd46;go_wp2;go_meet;exact⟨k,L,vals I,0,A6,c6,rfl,rfl,rfl,HT,HO6,HB2⟩
    |true=>
     have hd46:s[k]? =some 46:=of_decide_eq_true HDOT.out;have hks:k<s.length:=by
      rcases Nat.lt_or_ge k s.length with h|h
      ·exact h
      ·rw[List.getElem?_eq_none h]at hd46;cases hd46
     have HR3:Hid (r=if rdg s (k+1)=[]then none else expS 1000000 neg (vals I++vals (rdg s (k+1))) (-((rdg s (k+1)).length:Int)) (s.drop (k+1+(rdg s (k+1)).length))):=hid (by rw[HR2.out,if_pos hd46]);have hdg:=fun W=>zco s (by omega) (k+1) (by omega) W
     rw[show((k+1:Nat):Int)=(k:Int)+1 from by omega]at hdg;have HDG:=hid hdg;have hkI:(k:Int)<=268435455:=by omega
     clear hdg hd46 HR2 HDOT;go_wp2_with fail;refine(HDG.out _).mono ?_;rintro e w3 ⟨A9,c9,rfl,ho9,hb9⟩;have hle2:=znn s (k+1) (by omega);obtain⟨J,hJ⟩:=ex (rdg s (k+1))
     have HJD:Hid (∀v∈vals J,v<10):=hid (by rw[<-hJ];exact zcj _ (zdi _));rw[hJ]at ho9 hle2 HR3 ⊢;clear hJ;obtain⟨M,hM⟩:=ex J.length
     have HM:=hid hM;rw[hM]at ho9 hle2 HR3 ⊢;have HB3:Hid (Blk w3 gb 69 #[.bool false,.slice none 0 0,.int .i64 0]/\Below gb w w3):=hid ⟨HB2.out.1.below hb9 HB2.out.1.lt,HB2.out.2.trans (hb9.mono (Nat.le_of_lt HB2.out.1.lt))⟩;have HO63:=hid (HO6.out.later hb9);have HO9:Hid (OwnRow intL w3 (gb+1) 3 (.slice A9 M c9) (vals J)):=hid (ho9.lower HB2.out.1.lt);clear hM ho9 hb9;obtain⟨k2,hk2⟩:=ex (k+1+M)
     have HK2:=hid hk2;rw[hk2]at hle2 HR3 ⊢;clear hk2;by_cases hM0:M=0
     ·have HF:Hid (r=none):=hid (by rw[HR3.out,if_pos (List.eq_nil_of_length_eq_zero (by rw[HM.out];exact hM0))]);have hk2e:(k2:Int)=(k:Int)+1:=by have:=HK2.out;omega
      have hk2b:((k2:Int)==(k:Int)+1)=true:=by simpa using hk2e
      have HK2E:=hid hk2e;clear hk2e;have p0:∀j,w3.frozen? ⟨gb,j,none⟩=false:=HB3.out.1.frozen;obtain⟨q0,q1,q2⟩:=cells3 HB3.out.1;go_wp2_with fail;have hb3:=((HB3.out.1.set_ 0 (.bool false)).set_ 1 (.slice none 0 0)).set_ 2 (.int .i64 0);have e0:=hb3.cell 0;have e1:=hb3.cell 1;have e2:=hb3.cell 2;refine bodyPost_ret (v:=.tuple #[.agg #[.bool false,.slice none 0 0,.int .i64 0],.bool false]) (by rw[results_cell_tmp rfl];go_simp) rfl ?_;rw[HF.out];unfold zbu;rw[HGB.out];exact⟨zeroD,_,rfl,⟨none,0,rfl,OwnRow.nil⟩,fun y h=>(by cases h),((HB3.out.2.setCell (p:=⟨gb,0,none⟩) (by simp) _).setCell (p:=⟨gb,1,none⟩) (by simp) _).setCell (p:=⟨gb,2,none⟩) (by simp) _⟩
     ·have hk2n:¬((k2:Int)=(k:Int)+1):=by have:=HK2.out;omega
      have hk2b:((k2:Int)==(k:Int)+1)=false:=by simpa using hk2n
      obtain⟨Av,cv,hv9,hr9⟩:=HO9.out.form;injection hv9 with e1 e2 e3
      subst e1;have HRW:Hid (RowAt intL w3 w3.heap.size A9 (vals J)):=hid hr9;have HLV:Hid ((vals I).length=L/\(vals J).length=M):=hid ⟨by rw[za2,HL.out],by rw[za2,HM.out]⟩;clear hr9 e2 e3 hM0;go_upto_region 14 with fail;go_wp2_with (at_builtin;go_must (refine zac _ rfl (.tmp 70) (.tmp 71) 33 3 8 rfl intT (gb+1) (.slice A6 L c6) (vals I) rfl HO63.out w3.heap.size A9 c9 (vals J) ?_ HRW.out ?_ ?_ ?_))
      any_goals (first| (rw[HLV.out.2];rfl)| (rw[HLV.out.1,HLV.out.2];have:=HK2.out;omega)| (have:=HB3.out.1.lt;omega))
      intro v' w4 hown hg hat;have HB4:Hid (Blk w4 gb 69 #[.bool false,.slice none 0 0,.int .i64 0]/\Below gb w w4):=hid ⟨zek HB3.out.1 HO63.out hg (Nat.lt_succ_self _),HB3.out.2.trans ((HO63.out.grown_below hg (by have:=HB3.out.1.lt;omega)).mono (by omega))⟩;obtain⟨A4,c4,hv4,_⟩:=hown.form;obtain⟨q,hq⟩:=ex ((vals I++vals J).length)
      rw[hq]at hv4;subst hv4;have HO4:=hid hown;have HT:Hid (q=(vals I++vals J).length/\k2<=s.length/\(vals I++vals J).length<=536870911/\(∀v∈vals I++vals J,v<10)/\(-268435455:Int)<=-(M:Int)/\-(M:Int)<=0/\r=expS 1000000 neg (vals I++vals J) (-(M:Int)) (s.drop k2)):=hid ⟨hq.symm,hle2,by rw[List.length_append,HLV.out.1,HLV.out.2];have:=HK2.out;omega,fun v hv=>(List.mem_append.1 hv).elim (HID.out v) (HJD.out v),by have:=HK2.out;omega,by omega,by
       have h1:=HR3.out;rw[if_neg (by intro e;have h2:=HM.out;rw[e]at h2;have:=HK2.out;exact hk2n (by simp at h2;omega))]at h1;exact h1⟩
      have hMI:(M:Int)<=268435455:=by have:=HK2.out;omega
      clear hown hg hat hq;go_wp2;go_meet;exact⟨k2,q,_,_,A4,c4,rfl,rfl,rfl,HT,HO4,HB4⟩
   case rest=>
   obtain⟨t,n,ds,ev,A,c,rfl,rfl,rfl,HT,HO,HB⟩:=hcut;refine(‹∀(a:Act) (w_1:World),Code.wp prog _ _ a w_1->_›) _ _ ?_;exact zpk s hl w _ gb n c t A neg ev ds r HGB HT HO HB
end Go.Proofs.YtoigpackhninoaaGreatDoor

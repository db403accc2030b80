import Derived.Test.YtpjmhafmeieloabGreatDoorGrDecR5U
namespace Go.Proofs.YtpjmhafmeieloabGreatDoor
open Gr
open _root_.Go.Proofs.Tryz
open _root_.Go.Lib (hid)
set_option maxRecDepth 100000
set_option maxHeartbeats 16000000
open Go.RowKit
theorem zim (s:Gr.Str) (hl:s.length<=268435455) (w:World):
 Calls prog 116 #[.string ⟨s.toArray⟩] w (zcd (numS 1000000 s) w):=by
 obtain⟨r,hr⟩:=ex (numS 1000000 s)
 have HR:=hid hr;rw[hr];clear hr;obtain⟨b,K⟩:=ex (decide (s.head?=some 45))
 obtain⟨a,ha⟩:∃a:Nat,(if b=true then 1 else 0)=a:=⟨_,rfl⟩
 have HA:Hid (a<=s.length/\a<=1/\r=numT 1000000 b (s.drop a)):=hid (by
  rw[<-HR.out,<-ha,<-K];unfold numS;by_cases h:s.head?=some 45
  .rw[if_pos h,decide_eq_true h,if_pos rfl];refine⟨?_,by omega,by rw[List.drop_one]⟩;cases s with
   |nil=>cases h
   |cons c l=>simp
  .rw[if_neg h,decide_eq_false h];exact⟨by simp,by simp,by simp⟩)
 have ab:Hid (decide (s.head?=some 45)=b/\(if b=true then 1 else 0)=a):=hid ⟨K,ha⟩;clear K ha;go_enter func116,ntmps116;go_upto_region 1 with fail;obtain⟨w1,ao⟩:=ex (w.alloc (.cells #[.bool false,.slice none 0 0,.int .i64 0] 134))
 obtain⟨m,Z⟩:=ex w.heap.size
 have X:Hid (Blk w1 m 134 #[.bool false,.slice none 0 0,.int .i64 0]/\Below m w w1):=hid (by rw[<-ao,<-Z];exact⟨Blk.new _ _ _,(Below.refl _ _).alloc (Nat.le_refl _) _⟩);have an:=hid Z;(try rw[ao]);(try rw[Z]);clear ao Z;go_upto_region 2 with fail;go_cut [5] (fun s5 Y=>s5=.bool b/\Y=w1)
 case first=>
  by_cases h0:0<s.length
  .have aI:(0:Int)<(s.length:Int):=by omega
   obtain⟨c,d⟩:=ex (s[0]'h0)
   have ak:s.head?=some c:=by rw[List.head?_eq_getElem?,List.getElem?_eq_getElem h0,d]
   have N:=ab.out.1;rw[ak]at N;by_cases h45:c=45
   .have T:=zax s 0 h0 c 45 45 (by decide) d h45;have V:=zaq s 0 h0 c 45 45 (by decide) d h45;obtain rfl:b=true:=by rw[<-N];simp[h45]
    clear d ak N h45;go_wp2;go_meet;exact⟨rfl,rfl⟩
   .have T:=zan s 0 h0 c 45 45 (by decide) d h45;have V:=zar s 0 h0 c 45 45 (by decide) d h45;obtain rfl:b=false:=by rw[<-N];simp[h45]
    clear d ak N h45;go_wp2;go_meet;exact⟨rfl,rfl⟩
  .have aI:¬(0:Int)<(s.length:Int):=by omega
   obtain rfl:b=false:=by
    rw[<-ab.out.1,List.eq_nil_of_length_eq_zero (show s.length=0 by omega)];rfl
   go_wp2;go_meet;exact⟨rfl,rfl⟩
 case rest=>
 obtain⟨rfl,f⟩:=hcut;rw[f];clear f;go_upto_if 24 with fail;go_cut [4] (fun s4 Y=>s4=.int .i64 (a:Int)/\Y=w1)
 case first=>
  obtain⟨_,ha⟩:=ab.out;cases b with
  |true=>
   obtain rfl:a=1:=ha.symm;clear ha;go_wp2;go_meet;exact⟨rfl,rfl⟩
  |false=>
   obtain rfl:a=0:=ha.symm;clear ha;go_wp2;go_meet;exact⟨rfl,rfl⟩
 case rest=>
  obtain⟨rfl,f⟩:=hcut;rw[f];clear f ab;obtain⟨ax,ha2,aA⟩:=HA.out;have al:=hid aA;have aa:=hid (fun W=>zc8 s (by omega) a ax W);clear aA HA;go_wp2_with fail;refine(aa.out _).mono ?_;rintro e w2 ⟨A6,c6,rfl,ac,ap⟩;have af:=zqg s a ax;obtain⟨I,hI⟩:=ex (rdg s a)
  have F:=hid (zwj 1000000 b s a);have az:Hid (0<I.length->I.head?=s[a]?):=hid (by rw[<-hI];exact zk9 s a);have av:Hid (∀v∈vals I,v<10):=hid (by rw[<-hI];exact zc2 _ (zea _));rw[hI]at ac af F ⊢;clear hI;obtain⟨L,hL⟩:=ex I.length
  have HL:=hid hL;rw[hL]at ac af F az ⊢;obtain⟨k,hk⟩:=ex (a+L)
  have HK:=hid hk;rw[hk]at af F ⊢;have o:Hid (Blk w2 m 134 #[.bool false,.slice none 0 0,.int .i64 0]/\Below m w w2):=hid ⟨X.out.1.below ap X.out.1.lt,X.out.2.trans (ap.mono (Nat.le_of_lt X.out.1.lt))⟩;have au:Hid (OwnRow intL w2 (m+1) 3 (.slice A6 L c6) (vals I)):=hid (ac.lower X.out.1.lt);obtain⟨z,ag⟩:∃z,decide (L=0\/(s[a]? =some 48/\1<L))=z:=⟨_,rfl⟩
  have i:=hid ag;clear hL hk ac ap ag;go_upto_region 6 with fail;go_cut [45] (fun s45 Y=>s45=.bool z/\Y=w2)
  case first=>
   by_cases hL0:L=0
   .obtain rfl:z=true:=by rw[<-i.out];simp[hL0]
    obtain rfl:k=a:=by have:=HK.out;omega
    clear hL0;go_wp2;go_meet;exact⟨rfl,rfl⟩
   .have hka:((k:Int)==(a:Int))=false:=by rw[beq_eq_false_iff_ne];have:=HK.out;omega
    have hka2:¬((k:Int)=(a:Int)):=by have:=HK.out;omega
    have G:a<s.length:=by have:=HK.out;omega
    have hasI:(a:Int)<(s.length:Int):=by omega
    obtain⟨c,d⟩:=ex (s[a]'G)
    have u:s[a]? =some c:=by rw[zcp s a G,d]
    by_cases h48:c=48
    .have T:=zax s a G c 48 48 (by decide) d h48;have V:=zaq s a G c 48 48 (by decide) d h48;by_cases h1:1<L
     .obtain rfl:z=true:=by rw[<-i.out,u];simp[h48,h1]
      have aG:(a:Int)+1<(k:Int):=by have:=HK.out;omega
      clear d u h48 hL0;go_wp2;go_meet;exact⟨rfl,rfl⟩
     .obtain rfl:z=false:=by rw[<-i.out];simp[h1,hL0]
      have aG:¬(a:Int)+1<(k:Int):=by have:=HK.out;omega
      clear d u h48 hL0;go_wp2;go_meet;exact⟨rfl,rfl⟩
    .have T:=zan s a G c 48 48 (by decide) d h48;have V:=zar s a G c 48 48 (by decide) d h48;obtain rfl:z=false:=by rw[<-i.out,u];simp[h48,hL0]
     clear d u h48 hL0;go_wp2;go_meet;exact⟨rfl,rfl⟩
  case rest=>
  obtain⟨rfl,f⟩:=hcut;rw[f];clear f;cases z with
  |true=>
   have HF:Hid (r=none):=hid (by
    rw[al.out,F.out];have h:=of_decide_eq_true i.out;rw[if_pos];rcases h with h|h
    .exact .inl (List.eq_nil_of_length_eq_zero (by rw[HL.out];exact h))
    .exact .inr h)
   have p0:∀j,w2.frozen? ⟨m,j,none⟩=false:=o.out.1.frozen;obtain⟨q0,q1,q2⟩:=cells3 o.out.1;go_wp2_with fail;have C:=((o.out.1.set_ 0 (.bool false)).set_ 1 (.slice none 0 0)).set_ 2 (.int .i64 0);have e0:=C.cell 0;have e1:=C.cell 1;have e2:=C.cell 2;refine bodyPost_ret (v:=.tuple #[.agg #[.bool false,.slice none 0 0,.int .i64 0],.bool false]) (by rw[results_cell_tmp rfl];go_simp) rfl ?_;rw[HF.out];unfold zcd;rw[an.out];exact⟨zeroD,_,rfl,⟨none,0,rfl,OwnRow.nil⟩,fun y h=>(by cases h),((o.out.2.setCell (p:=⟨m,0,none⟩) (by simp) _).setCell (p:=⟨m,1,none⟩) (by simp) _).setCell (p:=⟨m,2,none⟩) (by simp) _⟩
  |false=>
   have aq:Hid (r=if s[k]? =some 46 then(if rdg s (k+1)=[]then none else expS 1000000 b (vals I++vals (rdg s (k+1))) (-((rdg s (k+1)).length:Int)) (s.drop (k+1+(rdg s (k+1)).length)))else expS 1000000 b (vals I) 0 (s.drop k)):=hid (by
    rw[al.out,F.out,if_neg];have h:=of_decide_eq_false i.out;rintro(h1|h1)
    .exact h (.inl (by rw[<-HL.out,h1];rfl))
    .exact h (.inr h1))
   have hLL:L<=s.length:=by have:=HK.out;omega
   obtain⟨O,ai⟩:=ex (decide (s[k]? =some 46))
   have x:=hid ai;clear ai F al i az aa;go_upto_region 10 with fail;go_cut [57] (fun s57 Y=>s57=.bool O/\Y=w2)
   case first=>
    by_cases hks:k<s.length
    .have aw:(k:Int)<(s.length:Int):=by omega
     obtain⟨c,d⟩:=ex (s[k]'hks)
     have u:s[k]? =some c:=by rw[zcp s k hks,d]
     have S:=x.out;rw[u]at S;by_cases h46:c=46
     .have T:=zax s k hks c 46 46 (by decide) d h46;have V:=zaq s k hks c 46 46 (by decide) d h46;obtain rfl:O=true:=by rw[<-S];simp[h46]
      clear d u S h46;go_wp2;go_meet;exact⟨rfl,rfl⟩
     .have T:=zan s k hks c 46 46 (by decide) d h46;have V:=zar s k hks c 46 46 (by decide) d h46;obtain rfl:O=false:=by rw[<-S];simp[h46]
      clear d u S h46;go_wp2;go_meet;exact⟨rfl,rfl⟩
    .have aw:¬(k:Int)<(s.length:Int):=by omega
     obtain rfl:O=false:=by rw[<-x.out,List.getElem?_eq_none (by omega)];rfl
     go_wp2;go_meet;exact⟨rfl,rfl⟩
   case rest=>
   obtain⟨rfl,f⟩:=hcut;rw[f];clear f;go_upto_if 57 with fail;go_cut [4,6,8] (fun s4 s6 s8 Y=>∃(t n:Nat) (ds:List Nat) (ev:Int) (A:Option Addr) (c:Nat),s4=.int .i64 (t:Int)/\s6=.slice A n c/\s8=.int .i64 ev/\Hid (n=ds.length/\t<=s.length/\ds.length<=536870911/\(∀v∈ds,v<10)/\-268435455<=ev/\ev<=0/\r=expS 1000000 b ds ev (s.drop t))/\Hid (OwnRow intL Y (m+1) 3 (.slice A n c) ds)/\Hid (Blk Y m 134 #[.bool false,.slice none 0 0,.int .i64 0]/\Below m w Y))
   case first=>
    cases O with
    |false=>
     have g:¬s[k]? =some 46:=of_decide_eq_false x.out;have HT:Hid (L=(vals I).length/\k<=s.length/\(vals I).length<=536870911/\(∀v∈vals I,v<10)/\(-268435455:Int)<=0/\(0:Int)<=0/\r=expS 1000000 b (vals I) 0 (s.drop k)):=hid ⟨by rw[zba,HL.out],af,by rw[zba,HL.out];omega,av.out,by omega,by omega,by rw[aq.out,if_neg g]⟩;clear g;go_wp2;go_meet;exact⟨k,L,vals I,0,A6,c6,rfl,rfl,rfl,HT,au,o⟩
    |true=>
     have g:s[k]? =some 46:=of_decide_eq_true x.out;have hks:k<s.length:=by
      rcases Nat.lt_or_ge k s.length with h|h
      .exact h
      .rw[List.getElem?_eq_none h]at g;cases g
     have H:Hid (r=if rdg s (k+1)=[]then none else expS 1000000 b (vals I++vals (rdg s (k+1))) (-((rdg s (k+1)).length:Int)) (s.drop (k+1+(rdg s (k+1)).length))):=hid (by rw[aq.out,if_pos g]);have am:=fun W=>zc8 s (by omega) (k+1) (by omega) W
     rw[show((k+1:Nat):Int)=(k:Int)+1 from by omega]at am;have aa:=hid am;have hkI:(k:Int)<=268435455:=by omega
     clear am g aq x;go_wp2_with fail;refine(aa.out _).mono ?_;rintro e w3 ⟨A9,c9,rfl,ae,ad⟩;have E:=zqg s (k+1) (by omega);obtain⟨J,hJ⟩:=ex (rdg s (k+1))
     have aJ:Hid (∀v∈vals J,v<10):=hid (by rw[<-hJ];exact zc2 _ (zea _));rw[hJ]at ae E H ⊢;clear hJ;obtain⟨M,hM⟩:=ex J.length
     have HM:=hid hM;rw[hM]at ae E H ⊢;have B:Hid (Blk w3 m 134 #[.bool false,.slice none 0 0,.int .i64 0]/\Below m w w3):=hid ⟨o.out.1.below ad o.out.1.lt,o.out.2.trans (ad.mono (Nat.le_of_lt o.out.1.lt))⟩;have U:=hid (au.out.later ad);have aC:Hid (OwnRow intL w3 (m+1) 3 (.slice A9 M c9) (vals J)):=hid (ae.lower o.out.1.lt);clear hM ae ad;obtain⟨k2,aj⟩:=ex (k+1+M)
     have D:=hid aj;rw[aj]at E H ⊢;clear aj;by_cases hM0:M=0
     .have HF:Hid (r=none):=hid (by rw[H.out,if_pos (List.eq_nil_of_length_eq_zero (by rw[HM.out];exact hM0))]);have P:(k2:Int)=(k:Int)+1:=by have:=D.out;omega
      have aB:((k2:Int)==(k:Int)+1)=true:=by simpa using P
      have HK2E:=hid P;clear P;have p0:∀j,w3.frozen? ⟨m,j,none⟩=false:=B.out.1.frozen;obtain⟨q0,q1,q2⟩:=cells3 B.out.1;go_wp2_with fail;have C:=((B.out.1.set_ 0 (.bool false)).set_ 1 (.slice none 0 0)).set_ 2 (.int .i64 0);have e0:=C.cell 0;have e1:=C.cell 1;have e2:=C.cell 2;refine bodyPost_ret (v:=.tuple #[.agg #[.bool false,.slice none 0 0,.int .i64 0],.bool false]) (by rw[results_cell_tmp rfl];go_simp) rfl ?_;rw[HF.out];unfold zcd;rw[an.out];exact⟨zeroD,_,rfl,⟨none,0,rfl,OwnRow.nil⟩,fun y h=>(by cases h),((B.out.2.setCell (p:=⟨m,0,none⟩) (by simp) _).setCell (p:=⟨m,1,none⟩) (by simp) _).setCell (p:=⟨m,2,none⟩) (by simp) _⟩
     .have ah:¬((k2:Int)=(k:Int)+1):=by have:=D.out;omega
      have aB:((k2:Int)==(k:Int)+1)=false:=by simpa using ah
      obtain⟨Av,cv,aK,ay⟩:=aC.out.form;injection aK with e1 e2 e3
      subst e1;have aH:Hid (RowAt intL w3 w3.heap.size A9 (vals J)):=hid ay;have Q:Hid ((vals I).length=L/\(vals J).length=M):=hid ⟨by rw[zba,HL.out],by rw[zba,HM.out]⟩;clear ay e2 e3 hM0;go_upto_region 14 with fail;go_wp2_with (at_builtin;go_must (refine zaa _ rfl (.tmp 70) (.tmp 71) 38 3 8 rfl intT (m+1) (.slice A6 L c6) (vals I) rfl U.out w3.heap.size A9 c9 (vals J) ?_ aH.out ?_ ?_ ?_))
      any_goals (first| (rw[Q.out.2];rfl)| (rw[Q.out.1,Q.out.2];have:=D.out;omega)| (have:=B.out.1.lt;omega))
      intro v' w4 R hg aF;have aD:Hid (Blk w4 m 134 #[.bool false,.slice none 0 0,.int .i64 0]/\Below m w w4):=hid ⟨zbd B.out.1 U.out hg (Nat.lt_succ_self _),B.out.2.trans ((U.out.grown_below hg (by have:=B.out.1.lt;omega)).mono (by omega))⟩;obtain⟨A4,c4,ar,_⟩:=R.form;obtain⟨q,hq⟩:=ex ((vals I++vals J).length)
      rw[hq]at ar;subst ar;have aE:=hid R;have HT:Hid (q=(vals I++vals J).length/\k2<=s.length/\(vals I++vals J).length<=536870911/\(∀v∈vals I++vals J,v<10)/\(-268435455:Int)<=-(M:Int)/\-(M:Int)<=0/\r=expS 1000000 b (vals I++vals J) (-(M:Int)) (s.drop k2)):=hid ⟨hq.symm,E,by rw[List.length_append,Q.out.1,Q.out.2];have:=D.out;omega,fun v hv=>(List.mem_append.1 hv).elim (av.out v) (aJ.out v),by have:=D.out;omega,by omega,by
       have h1:=H.out;rw[if_neg (by intro e;have h2:=HM.out;rw[e]at h2;have:=D.out;exact ah (by simp at h2;omega))]at h1;exact h1⟩
      have hMI:(M:Int)<=268435455:=by have:=D.out;omega
      clear R hg aF hq;go_wp2;go_meet;exact⟨k2,q,_,_,A4,c4,rfl,rfl,rfl,HT,aE,aD⟩
   case rest=>
   obtain⟨t,n,ds,ev,A,c,rfl,rfl,rfl,HT,HO,HB⟩:=hcut;refine(‹∀(a:Act) (w_1:World),Code.wp prog _ _ a w_1->_›) _ _ ?_;exact ztg s hl w _ m n c t A b ev ds r an HT HO HB
end Go.Proofs.YtpjmhafmeieloabGreatDoor

import Derived.Test.YtpgmfihonmoliaaGreatDoorGrDecR5U
namespace Go.Proofs.YtpgmfihonmoliaaGreatDoor
open Gr
open _root_.Go.Proofs.Tryz
open _root_.Go.Lib (hid)
set_option maxRecDepth 100000
set_option maxHeartbeats 16000000
open Go.RowKit
theorem ziy (s:Gr.Str) (hl:s.length<=268435455) (w:World):
 Calls prog 94 #[.string ⟨s.toArray⟩] w (zcf (numS 1000000 s) w):=by
 obtain⟨r,hr⟩:=ex (numS 1000000 s)
 have HR:=hid hr;rw[hr];clear hr;obtain⟨b,P⟩:=ex (decide (s.head?=some 45))
 obtain⟨a,ha⟩:∃a:Nat,(if b=true then 1 else 0)=a:=⟨_,rfl⟩
 have HA:Hid (a<=s.length/\a<=1/\r=numT 1000000 b (s.drop a)):=hid (by
  rw[<-HR.out,<-ha,<-P];unfold numS;by_cases h:s.head?=some 45
  .rw[if_pos h,decide_eq_true h,if_pos rfl];refine⟨?_,by omega,by rw[List.drop_one]⟩;cases s with
   |nil=>cases h
   |cons c l=>simp
  .rw[if_neg h,decide_eq_false h];exact⟨by simp,by simp,by simp⟩)
 have ae:Hid (decide (s.head?=some 45)=b/\(if b=true then 1 else 0)=a):=hid ⟨P,ha⟩;clear P ha;go_enter func94,ntmps94;go_upto_region 1 with fail;obtain⟨w1,ap⟩:=ex (w.alloc (.cells #[.bool false,.slice none 0 0,.int .i64 0] 102))
 obtain⟨f,af⟩:=ex w.heap.size
 have H:Hid (Blk w1 f 102 #[.bool false,.slice none 0 0,.int .i64 0]/\Below f w w1):=hid (by rw[<-ap,<-af];exact⟨Blk.new _ _ _,(Below.refl _ _).alloc (Nat.le_refl _) _⟩);have ao:=hid af;(try rw[ap]);(try rw[af]);clear ap af;go_upto_region 2 with fail;go_cut [5] (fun s5 O=>s5=.bool b/\O=w1)
 case first=>
  by_cases h0:0<s.length
  .have aC:(0:Int)<(s.length:Int):=by omega
   obtain⟨c,d⟩:=ex (s[0]'h0)
   have aj:s.head?=some c:=by rw[List.head?_eq_getElem?,List.getElem?_eq_getElem h0,d]
   have S:=ae.out.1;rw[aj]at S;by_cases h45:c=45
   .have V:=zax s 0 h0 c 45 45 (by decide) d h45;have U:=zar s 0 h0 c 45 45 (by decide) d h45;obtain rfl:b=true:=by rw[<-S];simp[h45]
    clear d aj S h45;go_wp2;go_meet;exact⟨rfl,rfl⟩
   .have V:=zap s 0 h0 c 45 45 (by decide) d h45;have U:=zas s 0 h0 c 45 45 (by decide) d h45;obtain rfl:b=false:=by rw[<-S];simp[h45]
    clear d aj S h45;go_wp2;go_meet;exact⟨rfl,rfl⟩
  .have aC:¬(0:Int)<(s.length:Int):=by omega
   obtain rfl:b=false:=by
    rw[<-ae.out.1,List.eq_nil_of_length_eq_zero (show s.length=0 by omega)];rfl
   go_wp2;go_meet;exact⟨rfl,rfl⟩
 case rest=>
 obtain⟨rfl,i⟩:=hcut;rw[i];clear i;go_upto_if 24 with fail;go_cut [4] (fun s4 O=>s4=.int .i64 (a:Int)/\O=w1)
 case first=>
  obtain⟨_,ha⟩:=ae.out;cases b with
  |true=>
   obtain rfl:a=1:=ha.symm;clear ha;go_wp2;go_meet;exact⟨rfl,rfl⟩
  |false=>
   obtain rfl:a=0:=ha.symm;clear ha;go_wp2;go_meet;exact⟨rfl,rfl⟩
 case rest=>
  obtain⟨rfl,i⟩:=hcut;rw[i];clear i ae;obtain⟨aw,ha2,ax⟩:=HA.out;have am:=hid ax;have ad:=hid (fun W=>zde s (by omega) a aw W);clear ax HA;go_wp2_with fail;refine(ad.out _).mono ?_;rintro e w2 ⟨A6,c6,rfl,ab,aq⟩;have aa:=zqu s a aw;obtain⟨I,hI⟩:=ex (rdg s a)
  have F:=hid (zwi 1000000 b s a);have aB:Hid (0<I.length->I.head?=s[a]?):=hid (by rw[<-hI];exact zle s a);have au:Hid (∀v∈vals I,v<10):=hid (by rw[<-hI];exact zc7 _ (zd9 _));rw[hI]at ab aa F ⊢;clear hI;obtain⟨L,hL⟩:=ex I.length
  have HL:=hid hL;rw[hL]at ab aa F aB ⊢;obtain⟨k,hk⟩:=ex (a+L)
  have HK:=hid hk;rw[hk]at aa F ⊢;have o:Hid (Blk w2 f 102 #[.bool false,.slice none 0 0,.int .i64 0]/\Below f w w2):=hid ⟨H.out.1.below aq H.out.1.lt,H.out.2.trans (aq.mono (Nat.le_of_lt H.out.1.lt))⟩;have az:Hid (OwnRow intL w2 (f+1) 3 (.slice A6 L c6) (vals I)):=hid (ab.lower H.out.1.lt);obtain⟨x,ah⟩:∃x,decide (L=0\/(s[a]? =some 48/\1<L))=x:=⟨_,rfl⟩
  have m:=hid ah;clear hL hk ab aq ah;go_upto_region 6 with fail;go_cut [45] (fun s45 O=>s45=.bool x/\O=w2)
  case first=>
   by_cases hL0:L=0
   .obtain rfl:x=true:=by rw[<-m.out];simp[hL0]
    obtain rfl:k=a:=by have:=HK.out;omega
    clear hL0;go_wp2;go_meet;exact⟨rfl,rfl⟩
   .have hka:((k:Int)==(a:Int))=false:=by rw[beq_eq_false_iff_ne];have:=HK.out;omega
    have hka2:¬((k:Int)=(a:Int)):=by have:=HK.out;omega
    have G:a<s.length:=by have:=HK.out;omega
    have hasI:(a:Int)<(s.length:Int):=by omega
    obtain⟨c,d⟩:=ex (s[a]'G)
    have u:s[a]? =some c:=by rw[zcr s a G,d]
    by_cases h48:c=48
    .have V:=zax s a G c 48 48 (by decide) d h48;have U:=zar s a G c 48 48 (by decide) d h48;by_cases h1:1<L
     .obtain rfl:x=true:=by rw[<-m.out,u];simp[h48,h1]
      have aI:(a:Int)+1<(k:Int):=by have:=HK.out;omega
      clear d u h48 hL0;go_wp2;go_meet;exact⟨rfl,rfl⟩
     .obtain rfl:x=false:=by rw[<-m.out];simp[h1,hL0]
      have aI:¬(a:Int)+1<(k:Int):=by have:=HK.out;omega
      clear d u h48 hL0;go_wp2;go_meet;exact⟨rfl,rfl⟩
    .have V:=zap s a G c 48 48 (by decide) d h48;have U:=zas s a G c 48 48 (by decide) d h48;obtain rfl:x=false:=by rw[<-m.out,u];simp[h48,hL0]
     clear d u h48 hL0;go_wp2;go_meet;exact⟨rfl,rfl⟩
  case rest=>
  obtain⟨rfl,i⟩:=hcut;rw[i];clear i;cases x with
  |true=>
   have HF:Hid (r=none):=hid (by
    rw[am.out,F.out];have h:=of_decide_eq_true m.out;rw[if_pos];rcases h with h|h
    .exact .inl (List.eq_nil_of_length_eq_zero (by rw[HL.out];exact h))
    .exact .inr h)
   have p0:∀j,w2.frozen? ⟨f,j,none⟩=false:=o.out.1.frozen;obtain⟨q0,q1,q2⟩:=cells3 o.out.1;go_wp2_with fail;have C:=((o.out.1.set_ 0 (.bool false)).set_ 1 (.slice none 0 0)).set_ 2 (.int .i64 0);have e0:=C.cell 0;have e1:=C.cell 1;have e2:=C.cell 2;refine bodyPost_ret (v:=.tuple #[.agg #[.bool false,.slice none 0 0,.int .i64 0],.bool false]) (by rw[results_cell_tmp rfl];go_simp) rfl ?_;rw[HF.out];unfold zcf;rw[ao.out];exact⟨zeroD,_,rfl,⟨none,0,rfl,OwnRow.nil⟩,fun y h=>(by cases h),((o.out.2.setCell (p:=⟨f,0,none⟩) (by simp) _).setCell (p:=⟨f,1,none⟩) (by simp) _).setCell (p:=⟨f,2,none⟩) (by simp) _⟩
  |false=>
   have ak:Hid (r=if s[k]? =some 46 then(if rdg s (k+1)=[]then none else expS 1000000 b (vals I++vals (rdg s (k+1))) (-((rdg s (k+1)).length:Int)) (s.drop (k+1+(rdg s (k+1)).length)))else expS 1000000 b (vals I) 0 (s.drop k)):=hid (by
    rw[am.out,F.out,if_neg];have h:=of_decide_eq_false m.out;rintro(h1|h1)
    .exact h (.inl (by rw[<-HL.out,h1];rfl))
    .exact h (.inr h1))
   have hLL:L<=s.length:=by have:=HK.out;omega
   obtain⟨N,ag⟩:=ex (decide (s[k]? =some 46))
   have B:=hid ag;clear ag F am m aB ad;go_upto_region 10 with fail;go_cut [57] (fun s57 O=>s57=.bool N/\O=w2)
   case first=>
    by_cases hks:k<s.length
    .have aA:(k:Int)<(s.length:Int):=by omega
     obtain⟨c,d⟩:=ex (s[k]'hks)
     have u:s[k]? =some c:=by rw[zcr s k hks,d]
     have T:=B.out;rw[u]at T;by_cases h46:c=46
     .have V:=zax s k hks c 46 46 (by decide) d h46;have U:=zar s k hks c 46 46 (by decide) d h46;obtain rfl:N=true:=by rw[<-T];simp[h46]
      clear d u T h46;go_wp2;go_meet;exact⟨rfl,rfl⟩
     .have V:=zap s k hks c 46 46 (by decide) d h46;have U:=zas s k hks c 46 46 (by decide) d h46;obtain rfl:N=false:=by rw[<-T];simp[h46]
      clear d u T h46;go_wp2;go_meet;exact⟨rfl,rfl⟩
    .have aA:¬(k:Int)<(s.length:Int):=by omega
     obtain rfl:N=false:=by rw[<-B.out,List.getElem?_eq_none (by omega)];rfl
     go_wp2;go_meet;exact⟨rfl,rfl⟩
   case rest=>
   obtain⟨rfl,i⟩:=hcut;rw[i];clear i;go_upto_if 57 with fail;go_cut [4,6,8] (fun s4 s6 s8 O=>∃(t n:Nat) (ds:List Nat) (ev:Int) (A:Option Addr) (c:Nat),s4=.int .i64 (t:Int)/\s6=.slice A n c/\s8=.int .i64 ev/\Hid (n=ds.length/\t<=s.length/\ds.length<=536870911/\(∀v∈ds,v<10)/\-268435455<=ev/\ev<=0/\r=expS 1000000 b ds ev (s.drop t))/\Hid (OwnRow intL O (f+1) 3 (.slice A n c) ds)/\Hid (Blk O f 102 #[.bool false,.slice none 0 0,.int .i64 0]/\Below f w O))
   case first=>
    cases N with
    |false=>
     have g:¬s[k]? =some 46:=of_decide_eq_false B.out;have HT:Hid (L=(vals I).length/\k<=s.length/\(vals I).length<=536870911/\(∀v∈vals I,v<10)/\(-268435455:Int)<=0/\(0:Int)<=0/\r=expS 1000000 b (vals I) 0 (s.drop k)):=hid ⟨by rw[zbd,HL.out],aa,by rw[zbd,HL.out];omega,au.out,by omega,by omega,by rw[ak.out,if_neg g]⟩;clear g;go_wp2;go_meet;exact⟨k,L,vals I,0,A6,c6,rfl,rfl,rfl,HT,az,o⟩
    |true=>
     have g:s[k]? =some 46:=of_decide_eq_true B.out;have hks:k<s.length:=by
      rcases Nat.lt_or_ge k s.length with h|h
      .exact h
      .rw[List.getElem?_eq_none h]at g;cases g
     have K:Hid (r=if rdg s (k+1)=[]then none else expS 1000000 b (vals I++vals (rdg s (k+1))) (-((rdg s (k+1)).length:Int)) (s.drop (k+1+(rdg s (k+1)).length))):=hid (by rw[ak.out,if_pos g]);have al:=fun W=>zde s (by omega) (k+1) (by omega) W
     rw[show((k+1:Nat):Int)=(k:Int)+1 from by omega]at al;have ad:=hid al;have hkI:(k:Int)<=268435455:=by omega
     clear al g ak B;go_wp2_with fail;refine(ad.out _).mono ?_;rintro e w3 ⟨A9,c9,rfl,ac,Z⟩;have E:=zqu s (k+1) (by omega);obtain⟨J,hJ⟩:=ex (rdg s (k+1))
     have aK:Hid (∀v∈vals J,v<10):=hid (by rw[<-hJ];exact zc7 _ (zd9 _));rw[hJ]at ac E K ⊢;clear hJ;obtain⟨M,hM⟩:=ex J.length
     have HM:=hid hM;rw[hM]at ac E K ⊢;have z:Hid (Blk w3 f 102 #[.bool false,.slice none 0 0,.int .i64 0]/\Below f w w3):=hid ⟨o.out.1.below Z o.out.1.lt,o.out.2.trans (Z.mono (Nat.le_of_lt o.out.1.lt))⟩;have Y:=hid (az.out.later Z);have aJ:Hid (OwnRow intL w3 (f+1) 3 (.slice A9 M c9) (vals J)):=hid (ac.lower o.out.1.lt);clear hM ac Z;obtain⟨k2,an⟩:=ex (k+1+M)
     have D:=hid an;rw[an]at E K ⊢;clear an;by_cases hM0:M=0
     .have HF:Hid (r=none):=hid (by rw[K.out,if_pos (List.eq_nil_of_length_eq_zero (by rw[HM.out];exact hM0))]);have R:(k2:Int)=(k:Int)+1:=by have:=D.out;omega
      have ay:((k2:Int)==(k:Int)+1)=true:=by simpa using R
      have HK2E:=hid R;clear R;have p0:∀j,w3.frozen? ⟨f,j,none⟩=false:=z.out.1.frozen;obtain⟨q0,q1,q2⟩:=cells3 z.out.1;go_wp2_with fail;have C:=((z.out.1.set_ 0 (.bool false)).set_ 1 (.slice none 0 0)).set_ 2 (.int .i64 0);have e0:=C.cell 0;have e1:=C.cell 1;have e2:=C.cell 2;refine bodyPost_ret (v:=.tuple #[.agg #[.bool false,.slice none 0 0,.int .i64 0],.bool false]) (by rw[results_cell_tmp rfl];go_simp) rfl ?_;rw[HF.out];unfold zcf;rw[ao.out];exact⟨zeroD,_,rfl,⟨none,0,rfl,OwnRow.nil⟩,fun y h=>(by cases h),((z.out.2.setCell (p:=⟨f,0,none⟩) (by simp) _).setCell (p:=⟨f,1,none⟩) (by simp) _).setCell (p:=⟨f,2,none⟩) (by simp) _⟩
     .have ai:¬((k2:Int)=(k:Int)+1):=by have:=D.out;omega
      have ay:((k2:Int)==(k:Int)+1)=false:=by simpa using ai
      obtain⟨Av,cv,aH,av⟩:=aJ.out.form;injection aH with e1 e2 e3
      subst e1;have aG:Hid (RowAt intL w3 w3.heap.size A9 (vals J)):=hid av;have X:Hid ((vals I).length=L/\(vals J).length=M):=hid ⟨by rw[zbd,HL.out],by rw[zbd,HM.out]⟩;clear av e2 e3 hM0;go_upto_region 14 with fail;go_wp2_with (at_builtin;go_must (refine zaa _ rfl (.tmp 70) (.tmp 71) 36 3 8 rfl intT (f+1) (.slice A6 L c6) (vals I) rfl Y.out w3.heap.size A9 c9 (vals J) ?_ aG.out ?_ ?_ ?_))
      any_goals (first| (rw[X.out.2];rfl)| (rw[X.out.1,X.out.2];have:=D.out;omega)| (have:=z.out.1.lt;omega))
      intro v' w4 Q hg aD;have aE:Hid (Blk w4 f 102 #[.bool false,.slice none 0 0,.int .i64 0]/\Below f w w4):=hid ⟨zbg z.out.1 Y.out hg (Nat.lt_succ_self _),z.out.2.trans ((Y.out.grown_below hg (by have:=z.out.1.lt;omega)).mono (by omega))⟩;obtain⟨A4,c4,ar,_⟩:=Q.form;obtain⟨q,hq⟩:=ex ((vals I++vals J).length)
      rw[hq]at ar;subst ar;have aF:=hid Q;have HT:Hid (q=(vals I++vals J).length/\k2<=s.length/\(vals I++vals J).length<=536870911/\(∀v∈vals I++vals J,v<10)/\(-268435455:Int)<=-(M:Int)/\-(M:Int)<=0/\r=expS 1000000 b (vals I++vals J) (-(M:Int)) (s.drop k2)):=hid ⟨hq.symm,E,by rw[List.length_append,X.out.1,X.out.2];have:=D.out;omega,fun v hv=>(List.mem_append.1 hv).elim (au.out v) (aK.out v),by have:=D.out;omega,by omega,by
       have h1:=K.out;rw[if_neg (by intro e;have h2:=HM.out;rw[e]at h2;have:=D.out;exact ai (by simp at h2;omega))]at h1;exact h1⟩
      have hMI:(M:Int)<=268435455:=by have:=D.out;omega
      clear Q hg aD hq;go_wp2;go_meet;exact⟨k2,q,_,_,A4,c4,rfl,rfl,rfl,HT,aF,aE⟩
   case rest=>
   obtain⟨t,n,ds,ev,A,c,rfl,rfl,rfl,HT,HO,HB⟩:=hcut;refine(‹∀(a:Act) (w_1:World),Code.wp prog _ _ a w_1->_›) _ _ ?_;exact ztj s hl w _ f n c t A b ev ds r ao HT HO HB
end Go.Proofs.YtpgmfihonmoliaaGreatDoor

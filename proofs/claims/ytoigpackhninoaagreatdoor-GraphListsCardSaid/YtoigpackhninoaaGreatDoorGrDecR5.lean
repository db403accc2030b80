import Derived.Test.YtoigpackhninoaaGreatDoorGrDecR5U
namespace Go.Proofs.YtoigpackhninoaaGreatDoor
open Gr
open _root_.Go.Proofs.Tryz
open _root_.Go.Lib (hid)
set_option maxRecDepth 100000
set_option maxHeartbeats 16000000
open Go.RowKit
theorem zid (s:Gr.Str) (hl:s.length<=268435455) (w:World):
 Calls prog 75 #[.string ⟨s.toArray⟩] w (zcb (numS 1000000 s) w):=by
 obtain⟨r,hr⟩:=ex (numS 1000000 s)
 have HR:=hid hr;rw[hr];clear hr;obtain⟨b,N⟩:=ex (decide (s.head?=some 45))
 obtain⟨a,ha⟩:∃a:Nat,(if b=true then 1 else 0)=a:=⟨_,rfl⟩
 have HA:Hid (a<=s.length/\a<=1/\r=numT 1000000 b (s.drop a)):=hid (by
  rw[<-HR.out,<-ha,<-N];unfold numS;by_cases h:s.head?=some 45
  ·rw[if_pos h,decide_eq_true h,if_pos rfl];refine⟨?_,by omega,by rw[List.drop_one]⟩;cases s with
   |nil=>cases h
   |cons c l=>simp
  ·rw[if_neg h,decide_eq_false h];exact⟨by simp,by simp,by simp⟩)
 have ab:Hid (decide (s.head?=some 45)=b/\(if b=true then 1 else 0)=a):=hid ⟨N,ha⟩;clear N ha;go_enter func75,ntmps75;go_upto_region 1 with fail;obtain⟨w1,aq⟩:=ex (w.alloc (.cells #[.bool false,.slice none 0 0,.int .i64 0] 69))
 obtain⟨i,ad⟩:=ex w.heap.size
 have H:Hid (Blk w1 i 69 #[.bool false,.slice none 0 0,.int .i64 0]/\Below i w w1):=hid (by rw[<-aq,<-ad];exact⟨Blk.new _ _ _,(Below.refl _ _).alloc (Nat.le_refl _) _⟩);have ap:=hid ad;(try rw[aq]);(try rw[ad]);clear aq ad;go_upto_region 2 with fail;go_cut [5] (fun s5 R=>s5=.bool b/\R=w1)
 case first=>
  by_cases h0:0<s.length
  ·have aH:(0:Int)<(s.length:Int):=by omega
   obtain⟨c,d⟩:=ex (s[0]'h0)
   have ao:s.head?=some c:=by rw[List.head?_eq_getElem?,List.getElem?_eq_getElem h0,d]
   have P:=ab.out.1;rw[ao]at P;by_cases h45:c=45
   ·have V:=zaw s 0 h0 c 45 45 (by decide) d h45;have S:=zap s 0 h0 c 45 45 (by decide) d h45;obtain rfl:b=true:=by rw[<-P];simp[h45]
    clear d ao P h45;go_wp2;go_meet;exact⟨rfl,rfl⟩
   ·have V:=zan s 0 h0 c 45 45 (by decide) d h45;have S:=zaq s 0 h0 c 45 45 (by decide) d h45;obtain rfl:b=false:=by rw[<-P];simp[h45]
    clear d ao P h45;go_wp2;go_meet;exact⟨rfl,rfl⟩
  ·have aH:¬(0:Int)<(s.length:Int):=by omega
   obtain rfl:b=false:=by
    rw[<-ab.out.1,List.eq_nil_of_length_eq_zero (show s.length=0 by omega)];rfl
   go_wp2;go_meet;exact⟨rfl,rfl⟩
 case rest=>
 obtain⟨rfl,g⟩:=hcut;rw[g];clear g;go_upto_if 24 with fail;go_cut [4] (fun s4 R=>s4=.int .i64 (a:Int)/\R=w1)
 case first=>
  obtain⟨_,ha⟩:=ab.out;cases b with
  |true=>
   obtain rfl:a=1:=ha.symm;clear ha;go_wp2;go_meet;exact⟨rfl,rfl⟩
  |false=>
   obtain rfl:a=0:=ha.symm;clear ha;go_wp2;go_meet;exact⟨rfl,rfl⟩
 case rest=>
  obtain⟨rfl,g⟩:=hcut;rw[g];clear g ab;obtain⟨av,ha2,ar⟩:=HA.out;have ak:=hid ar;have af:=hid (fun W=>zc4 s (by omega) a av W);clear ar HA;go_wp2_with fail;refine(af.out _).mono ?_;rintro e w2 ⟨A6,c6,rfl,ac,am⟩;have Z:=zqb s a av;obtain⟨I,hI⟩:=ex (rdg s a)
  have F:=hid (zv5 1000000 b s a);have au:Hid (0<I.length->I.head?=s[a]?):=hid (by rw[<-hI];exact zk4 s a);have ay:Hid (∀v∈vals I,v<10):=hid (by rw[<-hI];exact zcy _ (zd8 _));rw[hI]at ac Z F ⊢;clear hI;obtain⟨L,hL⟩:=ex I.length
  have HL:=hid hL;rw[hL]at ac Z F au ⊢;obtain⟨k,hk⟩:=ex (a+L)
  have HK:=hid hk;rw[hk]at Z F ⊢;have o:Hid (Blk w2 i 69 #[.bool false,.slice none 0 0,.int .i64 0]/\Below i w w2):=hid ⟨H.out.1.below am H.out.1.lt,H.out.2.trans (am.mono (Nat.le_of_lt H.out.1.lt))⟩;have ax:Hid (OwnRow intL w2 (i+1) 3 (.slice A6 L c6) (vals I)):=hid (ac.lower H.out.1.lt);obtain⟨x,ai⟩:∃x,decide (L=0\/(s[a]? =some 48/\1<L))=x:=⟨_,rfl⟩
  have f:=hid ai;clear hL hk ac am ai;go_upto_region 6 with fail;go_cut [45] (fun s45 R=>s45=.bool x/\R=w2)
  case first=>
   by_cases hL0:L=0
   ·obtain rfl:x=true:=by rw[<-f.out];simp[hL0]
    obtain rfl:k=a:=by have:=HK.out;omega
    clear hL0;go_wp2;go_meet;exact⟨rfl,rfl⟩
   ·have hka:((k:Int)==(a:Int))=false:=by rw[beq_eq_false_iff_ne];have:=HK.out;omega
    have hka2:¬((k:Int)=(a:Int)):=by have:=HK.out;omega
    have G:a<s.length:=by have:=HK.out;omega
    have hasI:(a:Int)<(s.length:Int):=by omega
    obtain⟨c,d⟩:=ex (s[a]'G)
    have u:s[a]? =some c:=by rw[zcn s a G,d]
    by_cases h48:c=48
    ·have V:=zaw s a G c 48 48 (by decide) d h48;have S:=zap s a G c 48 48 (by decide) d h48;by_cases h1:1<L
     ·obtain rfl:x=true:=by rw[<-f.out,u];simp[h48,h1]
      have aE:(a:Int)+1<(k:Int):=by have:=HK.out;omega
      clear d u h48 hL0;go_wp2;go_meet;exact⟨rfl,rfl⟩
     ·obtain rfl:x=false:=by rw[<-f.out];simp[h1,hL0]
      have aE:¬(a:Int)+1<(k:Int):=by have:=HK.out;omega
      clear d u h48 hL0;go_wp2;go_meet;exact⟨rfl,rfl⟩
    ·have V:=zan s a G c 48 48 (by decide) d h48;have S:=zaq s a G c 48 48 (by decide) d h48;obtain rfl:x=false:=by rw[<-f.out,u];simp[h48,hL0]
     clear d u h48 hL0;go_wp2;go_meet;exact⟨rfl,rfl⟩
  case rest=>
  obtain⟨rfl,g⟩:=hcut;rw[g];clear g;cases x with
  |true=>
   have HF:Hid (r=none):=hid (by
    rw[ak.out,F.out];have h:=of_decide_eq_true f.out;rw[if_pos];rcases h with h|h
    ·exact .inl (List.eq_nil_of_length_eq_zero (by rw[HL.out];exact h))
    ·exact .inr h)
   have p0:∀j,w2.frozen? ⟨i,j,none⟩=false:=o.out.1.frozen;obtain⟨q0,q1,q2⟩:=cells3 o.out.1;go_wp2_with fail;have C:=((o.out.1.set_ 0 (.bool false)).set_ 1 (.slice none 0 0)).set_ 2 (.int .i64 0);have e0:=C.cell 0;have e1:=C.cell 1;have e2:=C.cell 2;refine bodyPost_ret (v:=.tuple #[.agg #[.bool false,.slice none 0 0,.int .i64 0],.bool false]) (by rw[results_cell_tmp rfl];go_simp) rfl ?_;rw[HF.out];unfold zcb;rw[ap.out];exact⟨zeroD,_,rfl,⟨none,0,rfl,OwnRow.nil⟩,fun y h=>(by cases h),((o.out.2.setCell (p:=⟨i,0,none⟩) (by simp) _).setCell (p:=⟨i,1,none⟩) (by simp) _).setCell (p:=⟨i,2,none⟩) (by simp) _⟩
  |false=>
   have al:Hid (r=if s[k]? =some 46 then(if rdg s (k+1)=[]then none else expS 1000000 b (vals I++vals (rdg s (k+1))) (-((rdg s (k+1)).length:Int)) (s.drop (k+1+(rdg s (k+1)).length)))else expS 1000000 b (vals I) 0 (s.drop k)):=hid (by
    rw[ak.out,F.out,if_neg];have h:=of_decide_eq_false f.out;rintro(h1|h1)
    ·exact h (.inl (by rw[<-HL.out,h1];rfl))
    ·exact h (.inr h1))
   have hLL:L<=s.length:=by have:=HK.out;omega
   obtain⟨U,ah⟩:=ex (decide (s[k]? =some 46))
   have z:=hid ah;clear ah F ak f au af;go_upto_region 10 with fail;go_cut [57] (fun s57 R=>s57=.bool U/\R=w2)
   case first=>
    by_cases hks:k<s.length
    ·have aA:(k:Int)<(s.length:Int):=by omega
     obtain⟨c,d⟩:=ex (s[k]'hks)
     have u:s[k]? =some c:=by rw[zcn s k hks,d]
     have K:=z.out;rw[u]at K;by_cases h46:c=46
     ·have V:=zaw s k hks c 46 46 (by decide) d h46;have S:=zap s k hks c 46 46 (by decide) d h46;obtain rfl:U=true:=by rw[<-K];simp[h46]
      clear d u K h46;go_wp2;go_meet;exact⟨rfl,rfl⟩
     ·have V:=zan s k hks c 46 46 (by decide) d h46;have S:=zaq s k hks c 46 46 (by decide) d h46;obtain rfl:U=false:=by rw[<-K];simp[h46]
      clear d u K h46;go_wp2;go_meet;exact⟨rfl,rfl⟩
    ·have aA:¬(k:Int)<(s.length:Int):=by omega
     obtain rfl:U=false:=by rw[<-z.out,List.getElem?_eq_none (by omega)];rfl
     go_wp2;go_meet;exact⟨rfl,rfl⟩
   case rest=>
   obtain⟨rfl,g⟩:=hcut;rw[g];clear g;go_upto_if 57 with fail;go_cut [4,6,8] (fun s4 s6 s8 R=>∃(t n:Nat) (ds:List Nat) (ev:Int) (A:Option Addr) (c:Nat),s4=.int .i64 (t:Int)/\s6=.slice A n c/\s8=.int .i64 ev/\Hid (n=ds.length/\t<=s.length/\ds.length<=536870911/\(∀v∈ds,v<10)/\-268435455<=ev/\ev<=0/\r=expS 1000000 b ds ev (s.drop t))/\Hid (OwnRow intL R (i+1) 3 (.slice A n c) ds)/\Hid (Blk R i 69 #[.bool false,.slice none 0 0,.int .i64 0]/\Below i w R))
   case first=>
    cases U with
    |false=>
     have m:¬s[k]? =some 46:=of_decide_eq_false z.out;have HT:Hid (L=(vals I).length/\k<=s.length/\(vals I).length<=536870911/\(∀v∈vals I,v<10)/\(-268435455:Int)<=0/\(0:Int)<=0/\r=expS 1000000 b (vals I) 0 (s.drop k)):=hid ⟨by rw[zba,HL.out],Z,by rw[zba,HL.out];omega,ay.out,by omega,by omega,by rw[al.out,if_neg m]⟩;clear m;go_wp2;go_meet;exact⟨k,L,vals I,0,A6,c6,rfl,rfl,rfl,HT,ax,o⟩
    |true=>
     have m:s[k]? =some 46:=of_decide_eq_true z.out;have hks:k<s.length:=by
      rcases Nat.lt_or_ge k s.length with h|h
      ·exact h
      ·rw[List.getElem?_eq_none h]at m;cases m
     have T:Hid (r=if rdg s (k+1)=[]then none else expS 1000000 b (vals I++vals (rdg s (k+1))) (-((rdg s (k+1)).length:Int)) (s.drop (k+1+(rdg s (k+1)).length))):=hid (by rw[al.out,if_pos m]);have an:=fun W=>zc4 s (by omega) (k+1) (by omega) W
     rw[show((k+1:Nat):Int)=(k:Int)+1 from by omega]at an;have af:=hid an;have hkI:(k:Int)<=268435455:=by omega
     clear an m al z;go_wp2_with fail;refine(af.out _).mono ?_;rintro e w3 ⟨A9,c9,rfl,ae,aa⟩;have E:=zqb s (k+1) (by omega);obtain⟨J,hJ⟩:=ex (rdg s (k+1))
     have aI:Hid (∀v∈vals J,v<10):=hid (by rw[<-hJ];exact zcy _ (zd8 _));rw[hJ]at ae E T ⊢;clear hJ;obtain⟨M,hM⟩:=ex J.length
     have HM:=hid hM;rw[hM]at ae E T ⊢;have B:Hid (Blk w3 i 69 #[.bool false,.slice none 0 0,.int .i64 0]/\Below i w w3):=hid ⟨o.out.1.below aa o.out.1.lt,o.out.2.trans (aa.mono (Nat.le_of_lt o.out.1.lt))⟩;have Y:=hid (ax.out.later aa);have aF:Hid (OwnRow intL w3 (i+1) 3 (.slice A9 M c9) (vals J)):=hid (ae.lower o.out.1.lt);clear hM ae aa;obtain⟨k2,aj⟩:=ex (k+1+M)
     have D:=hid aj;rw[aj]at E T ⊢;clear aj;by_cases hM0:M=0
     ·have HF:Hid (r=none):=hid (by rw[T.out,if_pos (List.eq_nil_of_length_eq_zero (by rw[HM.out];exact hM0))]);have Q:(k2:Int)=(k:Int)+1:=by have:=D.out;omega
      have az:((k2:Int)==(k:Int)+1)=true:=by simpa using Q
      have HK2E:=hid Q;clear Q;have p0:∀j,w3.frozen? ⟨i,j,none⟩=false:=B.out.1.frozen;obtain⟨q0,q1,q2⟩:=cells3 B.out.1;go_wp2_with fail;have C:=((B.out.1.set_ 0 (.bool false)).set_ 1 (.slice none 0 0)).set_ 2 (.int .i64 0);have e0:=C.cell 0;have e1:=C.cell 1;have e2:=C.cell 2;refine bodyPost_ret (v:=.tuple #[.agg #[.bool false,.slice none 0 0,.int .i64 0],.bool false]) (by rw[results_cell_tmp rfl];go_simp) rfl ?_;rw[HF.out];unfold zcb;rw[ap.out];exact⟨zeroD,_,rfl,⟨none,0,rfl,OwnRow.nil⟩,fun y h=>(by cases h),((B.out.2.setCell (p:=⟨i,0,none⟩) (by simp) _).setCell (p:=⟨i,1,none⟩) (by simp) _).setCell (p:=⟨i,2,none⟩) (by simp) _⟩
     ·have ag:¬((k2:Int)=(k:Int)+1):=by have:=D.out;omega
      have az:((k2:Int)==(k:Int)+1)=false:=by simpa using ag
      obtain⟨Av,cv,aC,aw⟩:=aF.out.form;injection aC with e1 e2 e3
      subst e1;have aK:Hid (RowAt intL w3 w3.heap.size A9 (vals J)):=hid aw;have X:Hid ((vals I).length=L/\(vals J).length=M):=hid ⟨by rw[zba,HL.out],by rw[zba,HM.out]⟩;clear aw e2 e3 hM0;go_upto_region 14 with fail;go_wp2_with (at_builtin;go_must (refine zab _ rfl (.tmp 70) (.tmp 71) 33 3 8 rfl intT (i+1) (.slice A6 L c6) (vals I) rfl Y.out w3.heap.size A9 c9 (vals J) ?_ aK.out ?_ ?_ ?_))
      any_goals (first| (rw[X.out.2];rfl)| (rw[X.out.1,X.out.2];have:=D.out;omega)| (have:=B.out.1.lt;omega))
      intro v' w4 O hg aG;have aJ:Hid (Blk w4 i 69 #[.bool false,.slice none 0 0,.int .i64 0]/\Below i w w4):=hid ⟨zbd B.out.1 Y.out hg (Nat.lt_succ_self _),B.out.2.trans ((Y.out.grown_below hg (by have:=B.out.1.lt;omega)).mono (by omega))⟩;obtain⟨A4,c4,aB,_⟩:=O.form;obtain⟨q,hq⟩:=ex ((vals I++vals J).length)
      rw[hq]at aB;subst aB;have aD:=hid O;have HT:Hid (q=(vals I++vals J).length/\k2<=s.length/\(vals I++vals J).length<=536870911/\(∀v∈vals I++vals J,v<10)/\(-268435455:Int)<=-(M:Int)/\-(M:Int)<=0/\r=expS 1000000 b (vals I++vals J) (-(M:Int)) (s.drop k2)):=hid ⟨hq.symm,E,by rw[List.length_append,X.out.1,X.out.2];have:=D.out;omega,fun v hv=>(List.mem_append.1 hv).elim (ay.out v) (aI.out v),by have:=D.out;omega,by omega,by
       have h1:=T.out;rw[if_neg (by intro e;have h2:=HM.out;rw[e]at h2;have:=D.out;exact ag (by simp at h2;omega))]at h1;exact h1⟩
      have hMI:(M:Int)<=268435455:=by have:=D.out;omega
      clear O hg aG hq;go_wp2;go_meet;exact⟨k2,q,_,_,A4,c4,rfl,rfl,rfl,HT,aD,aJ⟩
   case rest=>
   obtain⟨t,n,ds,ev,A,c,rfl,rfl,rfl,HT,HO,HB⟩:=hcut;refine(‹∀(a:Act) (w_1:World),Code.wp prog _ _ a w_1->_›) _ _ ?_;exact zs9 s hl w _ i n c t A b ev ds r ap HT HO HB
end Go.Proofs.YtoigpackhninoaaGreatDoor

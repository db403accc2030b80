import Derived.Test.YtpjmhafmeieloaaGreatDoorGrDecR5U
namespace Go.Proofs.YtpjmhafmeieloaaGreatDoor
open Gr
open _root_.Go.Proofs.Tryz
open _root_.Go.Lib (hid)
set_option maxRecDepth 100000
set_option maxHeartbeats 16000000
open Go.RowKit
theorem zi5 (s:Gr.Str) (hl:s.length<=268435455) (w:World):
 Calls prog 114 #[.string ⟨s.toArray⟩] w (zcg (numS 1000000 s) w):=by
 obtain⟨r,hr⟩:=ex (numS 1000000 s)
 have HR:=hid hr;rw[hr];clear hr;obtain⟨b,V⟩:=ex (decide (s.head?=some 45))
 obtain⟨a,ha⟩:∃a:Nat,(if b=true then 1 else 0)=a:=⟨_,rfl⟩
 have HA:Hid (a<=s.length/\a<=1/\r=numT 1000000 b (s.drop a)):=hid (by
  rw[<-HR.out,<-ha,<-V];unfold numS;by_cases h:s.head?=some 45
  .rw[if_pos h,decide_eq_true h,if_pos rfl];refine⟨?_,by omega,by rw[List.drop_one]⟩;cases s with
   |nil=>cases h
   |cons c l=>simp
  .rw[if_neg h,decide_eq_false h];exact⟨by simp,by simp,by simp⟩)
 have ad:Hid (decide (s.head?=some 45)=b/\(if b=true then 1 else 0)=a):=hid ⟨V,ha⟩;clear V ha;go_enter func114,ntmps114;go_upto_region 1 with fail;obtain⟨w1,al⟩:=ex (w.alloc (.cells #[.bool false,.slice none 0 0,.int .i64 0] 131))
 obtain⟨m,ac⟩:=ex w.heap.size
 have Y:Hid (Blk w1 m 131 #[.bool false,.slice none 0 0,.int .i64 0]/\Below m w w1):=hid (by rw[<-al,<-ac];exact⟨Blk.new _ _ _,(Below.refl _ _).alloc (Nat.le_refl _) _⟩);have aj:=hid ac;(try rw[al]);(try rw[ac]);clear al ac;go_upto_region 2 with fail;go_cut [5] (fun s5 Q=>s5=.bool b/\Q=w1)
 case first=>
  by_cases h0:0<s.length
  .have aD:(0:Int)<(s.length:Int):=by omega
   obtain⟨c,d⟩:=ex (s[0]'h0)
   have aq:s.head?=some c:=by rw[List.head?_eq_getElem?,List.getElem?_eq_getElem h0,d]
   have X:=ad.out.1;rw[aq]at X;by_cases h45:c=45
   .have N:=zax s 0 h0 c 45 45 (by decide) d h45;have O:=zaq s 0 h0 c 45 45 (by decide) d h45;obtain rfl:b=true:=by rw[<-X];simp[h45]
    clear d aq X h45;go_wp2;go_meet;exact⟨rfl,rfl⟩
   .have N:=zao s 0 h0 c 45 45 (by decide) d h45;have O:=zar s 0 h0 c 45 45 (by decide) d h45;obtain rfl:b=false:=by rw[<-X];simp[h45]
    clear d aq X h45;go_wp2;go_meet;exact⟨rfl,rfl⟩
  .have aD:¬(0:Int)<(s.length:Int):=by omega
   obtain rfl:b=false:=by
    rw[<-ad.out.1,List.eq_nil_of_length_eq_zero (show s.length=0 by omega)];rfl
   go_wp2;go_meet;exact⟨rfl,rfl⟩
 case rest=>
 obtain⟨rfl,g⟩:=hcut;rw[g];clear g;go_upto_if 24 with fail;go_cut [4] (fun s4 Q=>s4=.int .i64 (a:Int)/\Q=w1)
 case first=>
  obtain⟨_,ha⟩:=ad.out;cases b with
  |true=>
   obtain rfl:a=1:=ha.symm;clear ha;go_wp2;go_meet;exact⟨rfl,rfl⟩
  |false=>
   obtain rfl:a=0:=ha.symm;clear ha;go_wp2;go_meet;exact⟨rfl,rfl⟩
 case rest=>
  obtain⟨rfl,g⟩:=hcut;rw[g];clear g ad;obtain⟨ar,ha2,av⟩:=HA.out;have ao:=hid av;have Z:=hid (fun W=>zdf s (by omega) a ar W);clear av HA;go_wp2_with fail;refine(Z.out _).mono ?_;rintro e w2 ⟨A6,c6,rfl,af,ak⟩;have aa:=zrd s a ar;obtain⟨I,hI⟩:=ex (rdg s a)
  have G:=hid (zwy 1000000 b s a);have az:Hid (0<I.length->I.head?=s[a]?):=hid (by rw[<-hI];exact zln s a);have aB:Hid (∀v∈vals I,v<10):=hid (by rw[<-hI];exact zc7 _ (zec _));rw[hI]at af aa G ⊢;clear hI;obtain⟨L,hL⟩:=ex I.length
  have HL:=hid hL;rw[hL]at af aa G az ⊢;obtain⟨k,hk⟩:=ex (a+L)
  have HK:=hid hk;rw[hk]at aa G ⊢;have o:Hid (Blk w2 m 131 #[.bool false,.slice none 0 0,.int .i64 0]/\Below m w w2):=hid ⟨Y.out.1.below ak Y.out.1.lt,Y.out.2.trans (ak.mono (Nat.le_of_lt Y.out.1.lt))⟩;have aw:Hid (OwnRow intL w2 (m+1) 3 (.slice A6 L c6) (vals I)):=hid (af.lower Y.out.1.lt);obtain⟨z,ag⟩:∃z,decide (L=0\/(s[a]? =some 48/\1<L))=z:=⟨_,rfl⟩
  have i:=hid ag;clear hL hk af ak ag;go_upto_region 6 with fail;go_cut [45] (fun s45 Q=>s45=.bool z/\Q=w2)
  case first=>
   by_cases hL0:L=0
   .obtain rfl:z=true:=by rw[<-i.out];simp[hL0]
    obtain rfl:k=a:=by have:=HK.out;omega
    clear hL0;go_wp2;go_meet;exact⟨rfl,rfl⟩
   .have hka:((k:Int)==(a:Int))=false:=by rw[beq_eq_false_iff_ne];have:=HK.out;omega
    have hka2:¬((k:Int)=(a:Int)):=by have:=HK.out;omega
    have F:a<s.length:=by have:=HK.out;omega
    have hasI:(a:Int)<(s.length:Int):=by omega
    obtain⟨c,d⟩:=ex (s[a]'F)
    have u:s[a]? =some c:=by rw[zcu s a F,d]
    by_cases h48:c=48
    .have N:=zax s a F c 48 48 (by decide) d h48;have O:=zaq s a F c 48 48 (by decide) d h48;by_cases h1:1<L
     .obtain rfl:z=true:=by rw[<-i.out,u];simp[h48,h1]
      have aC:(a:Int)+1<(k:Int):=by have:=HK.out;omega
      clear d u h48 hL0;go_wp2;go_meet;exact⟨rfl,rfl⟩
     .obtain rfl:z=false:=by rw[<-i.out];simp[h1,hL0]
      have aC:¬(a:Int)+1<(k:Int):=by have:=HK.out;omega
      clear d u h48 hL0;go_wp2;go_meet;exact⟨rfl,rfl⟩
    .have N:=zao s a F c 48 48 (by decide) d h48;have O:=zar s a F c 48 48 (by decide) d h48;obtain rfl:z=false:=by rw[<-i.out,u];simp[h48,hL0]
     clear d u h48 hL0;go_wp2;go_meet;exact⟨rfl,rfl⟩
  case rest=>
  obtain⟨rfl,g⟩:=hcut;rw[g];clear g;cases z with
  |true=>
   have HF:Hid (r=none):=hid (by
    rw[ao.out,G.out];have h:=of_decide_eq_true i.out;rw[if_pos];rcases h with h|h
    .exact .inl (List.eq_nil_of_length_eq_zero (by rw[HL.out];exact h))
    .exact .inr h)
   have p0:∀j,w2.frozen? ⟨m,j,none⟩=false:=o.out.1.frozen;obtain⟨q0,q1,q2⟩:=cells3 o.out.1;go_wp2_with fail;have D:=((o.out.1.set_ 0 (.bool false)).set_ 1 (.slice none 0 0)).set_ 2 (.int .i64 0);have e0:=D.cell 0;have e1:=D.cell 1;have e2:=D.cell 2;refine bodyPost_ret (v:=.tuple #[.agg #[.bool false,.slice none 0 0,.int .i64 0],.bool false]) (by rw[results_cell_tmp rfl];go_simp) rfl ?_;rw[HF.out];unfold zcg;rw[aj.out];exact⟨zeroD,_,rfl,⟨none,0,rfl,OwnRow.nil⟩,fun y h=>(by cases h),((o.out.2.setCell (p:=⟨m,0,none⟩) (by simp) _).setCell (p:=⟨m,1,none⟩) (by simp) _).setCell (p:=⟨m,2,none⟩) (by simp) _⟩
  |false=>
   have am:Hid (r=if s[k]? =some 46 then(if rdg s (k+1)=[]then none else expS 1000000 b (vals I++vals (rdg s (k+1))) (-((rdg s (k+1)).length:Int)) (s.drop (k+1+(rdg s (k+1)).length)))else expS 1000000 b (vals I) 0 (s.drop k)):=hid (by
    rw[ao.out,G.out,if_neg];have h:=of_decide_eq_false i.out;rintro(h1|h1)
    .exact h (.inl (by rw[<-HL.out,h1];rfl))
    .exact h (.inr h1))
   have hLL:L<=s.length:=by have:=HK.out;omega
   obtain⟨P,ai⟩:=ex (decide (s[k]? =some 46))
   have B:=hid ai;clear ai G ao i az Z;go_upto_region 10 with fail;go_cut [57] (fun s57 Q=>s57=.bool P/\Q=w2)
   case first=>
    by_cases hks:k<s.length
    .have ay:(k:Int)<(s.length:Int):=by omega
     obtain⟨c,d⟩:=ex (s[k]'hks)
     have u:s[k]? =some c:=by rw[zcu s k hks,d]
     have T:=B.out;rw[u]at T;by_cases h46:c=46
     .have N:=zax s k hks c 46 46 (by decide) d h46;have O:=zaq s k hks c 46 46 (by decide) d h46;obtain rfl:P=true:=by rw[<-T];simp[h46]
      clear d u T h46;go_wp2;go_meet;exact⟨rfl,rfl⟩
     .have N:=zao s k hks c 46 46 (by decide) d h46;have O:=zar s k hks c 46 46 (by decide) d h46;obtain rfl:P=false:=by rw[<-T];simp[h46]
      clear d u T h46;go_wp2;go_meet;exact⟨rfl,rfl⟩
    .have ay:¬(k:Int)<(s.length:Int):=by omega
     obtain rfl:P=false:=by rw[<-B.out,List.getElem?_eq_none (by omega)];rfl
     go_wp2;go_meet;exact⟨rfl,rfl⟩
   case rest=>
   obtain⟨rfl,g⟩:=hcut;rw[g];clear g;go_upto_if 57 with fail;go_cut [4,6,8] (fun s4 s6 s8 Q=>∃(t n:Nat) (ds:List Nat) (ev:Int) (A:Option Addr) (c:Nat),s4=.int .i64 (t:Int)/\s6=.slice A n c/\s8=.int .i64 ev/\Hid (n=ds.length/\t<=s.length/\ds.length<=536870911/\(∀v∈ds,v<10)/\-268435455<=ev/\ev<=0/\r=expS 1000000 b ds ev (s.drop t))/\Hid (OwnRow intL Q (m+1) 3 (.slice A n c) ds)/\Hid (Blk Q m 131 #[.bool false,.slice none 0 0,.int .i64 0]/\Below m w Q))
   case first=>
    cases P with
    |false=>
     have f:¬s[k]? =some 46:=of_decide_eq_false B.out;have HT:Hid (L=(vals I).length/\k<=s.length/\(vals I).length<=536870911/\(∀v∈vals I,v<10)/\(-268435455:Int)<=0/\(0:Int)<=0/\r=expS 1000000 b (vals I) 0 (s.drop k)):=hid ⟨by rw[zbc,HL.out],aa,by rw[zbc,HL.out];omega,aB.out,by omega,by omega,by rw[am.out,if_neg f]⟩;clear f;go_wp2;go_meet;exact⟨k,L,vals I,0,A6,c6,rfl,rfl,rfl,HT,aw,o⟩
    |true=>
     have f:s[k]? =some 46:=of_decide_eq_true B.out;have hks:k<s.length:=by
      rcases Nat.lt_or_ge k s.length with h|h
      .exact h
      .rw[List.getElem?_eq_none h]at f;cases f
     have K:Hid (r=if rdg s (k+1)=[]then none else expS 1000000 b (vals I++vals (rdg s (k+1))) (-((rdg s (k+1)).length:Int)) (s.drop (k+1+(rdg s (k+1)).length))):=hid (by rw[am.out,if_pos f]);have ap:=fun W=>zdf s (by omega) (k+1) (by omega) W
     rw[show((k+1:Nat):Int)=(k:Int)+1 from by omega]at ap;have Z:=hid ap;have hkI:(k:Int)<=268435455:=by omega
     clear ap f am B;go_wp2_with fail;refine(Z.out _).mono ?_;rintro e w3 ⟨A9,c9,rfl,ab,ae⟩;have E:=zrd s (k+1) (by omega);obtain⟨J,hJ⟩:=ex (rdg s (k+1))
     have aF:Hid (∀v∈vals J,v<10):=hid (by rw[<-hJ];exact zc7 _ (zec _));rw[hJ]at ab E K ⊢;clear hJ;obtain⟨M,hM⟩:=ex J.length
     have HM:=hid hM;rw[hM]at ab E K ⊢;have x:Hid (Blk w3 m 131 #[.bool false,.slice none 0 0,.int .i64 0]/\Below m w w3):=hid ⟨o.out.1.below ae o.out.1.lt,o.out.2.trans (ae.mono (Nat.le_of_lt o.out.1.lt))⟩;have R:=hid (aw.out.later ae);have aI:Hid (OwnRow intL w3 (m+1) 3 (.slice A9 M c9) (vals J)):=hid (ab.lower o.out.1.lt);clear hM ab ae;obtain⟨k2,an⟩:=ex (k+1+M)
     have C:=hid an;rw[an]at E K ⊢;clear an;by_cases hM0:M=0
     .have HF:Hid (r=none):=hid (by rw[K.out,if_pos (List.eq_nil_of_length_eq_zero (by rw[HM.out];exact hM0))]);have U:(k2:Int)=(k:Int)+1:=by have:=C.out;omega
      have ax:((k2:Int)==(k:Int)+1)=true:=by simpa using U
      have HK2E:=hid U;clear U;have p0:∀j,w3.frozen? ⟨m,j,none⟩=false:=x.out.1.frozen;obtain⟨q0,q1,q2⟩:=cells3 x.out.1;go_wp2_with fail;have D:=((x.out.1.set_ 0 (.bool false)).set_ 1 (.slice none 0 0)).set_ 2 (.int .i64 0);have e0:=D.cell 0;have e1:=D.cell 1;have e2:=D.cell 2;refine bodyPost_ret (v:=.tuple #[.agg #[.bool false,.slice none 0 0,.int .i64 0],.bool false]) (by rw[results_cell_tmp rfl];go_simp) rfl ?_;rw[HF.out];unfold zcg;rw[aj.out];exact⟨zeroD,_,rfl,⟨none,0,rfl,OwnRow.nil⟩,fun y h=>(by cases h),((x.out.2.setCell (p:=⟨m,0,none⟩) (by simp) _).setCell (p:=⟨m,1,none⟩) (by simp) _).setCell (p:=⟨m,2,none⟩) (by simp) _⟩
     .have ah:¬((k2:Int)=(k:Int)+1):=by have:=C.out;omega
      have ax:((k2:Int)==(k:Int)+1)=false:=by simpa using ah
      obtain⟨Av,cv,aK,au⟩:=aI.out.form;injection aK with e1 e2 e3
      subst e1;have aJ:Hid (RowAt intL w3 w3.heap.size A9 (vals J)):=hid au;have S:Hid ((vals I).length=L/\(vals J).length=M):=hid ⟨by rw[zbc,HL.out],by rw[zbc,HM.out]⟩;clear au e2 e3 hM0;go_upto_region 14 with fail;go_wp2_with (at_builtin;go_must (refine zab _ rfl (.tmp 70) (.tmp 71) 34 3 8 rfl intT (m+1) (.slice A6 L c6) (vals I) rfl R.out w3.heap.size A9 c9 (vals J) ?_ aJ.out ?_ ?_ ?_))
      any_goals (first| (rw[S.out.2];rfl)| (rw[S.out.1,S.out.2];have:=C.out;omega)| (have:=x.out.1.lt;omega))
      intro v' w4 H hg aH;have aG:Hid (Blk w4 m 131 #[.bool false,.slice none 0 0,.int .i64 0]/\Below m w w4):=hid ⟨zbg x.out.1 R.out hg (Nat.lt_succ_self _),x.out.2.trans ((R.out.grown_below hg (by have:=x.out.1.lt;omega)).mono (by omega))⟩;obtain⟨A4,c4,aA,_⟩:=H.form;obtain⟨q,hq⟩:=ex ((vals I++vals J).length)
      rw[hq]at aA;subst aA;have aE:=hid H;have HT:Hid (q=(vals I++vals J).length/\k2<=s.length/\(vals I++vals J).length<=536870911/\(∀v∈vals I++vals J,v<10)/\(-268435455:Int)<=-(M:Int)/\-(M:Int)<=0/\r=expS 1000000 b (vals I++vals J) (-(M:Int)) (s.drop k2)):=hid ⟨hq.symm,E,by rw[List.length_append,S.out.1,S.out.2];have:=C.out;omega,fun v hv=>(List.mem_append.1 hv).elim (aB.out v) (aF.out v),by have:=C.out;omega,by omega,by
       have h1:=K.out;rw[if_neg (by intro e;have h2:=HM.out;rw[e]at h2;have:=C.out;exact ah (by simp at h2;omega))]at h1;exact h1⟩
      have hMI:(M:Int)<=268435455:=by have:=C.out;omega
      clear H hg aH hq;go_wp2;go_meet;exact⟨k2,q,_,_,A4,c4,rfl,rfl,rfl,HT,aE,aG⟩
   case rest=>
   obtain⟨t,n,ds,ev,A,c,rfl,rfl,rfl,HT,HO,HB⟩:=hcut;refine(‹∀(a:Act) (w_1:World),Code.wp prog _ _ a w_1->_›) _ _ ?_;exact ztp s hl w _ m n c t A b ev ds r aj HT HO HB
end Go.Proofs.YtpjmhafmeieloaaGreatDoor

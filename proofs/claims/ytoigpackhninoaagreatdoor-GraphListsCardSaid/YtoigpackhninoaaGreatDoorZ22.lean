import Derived.Test.YtoigpackhninoaaGreatDoorZ07
namespace Go.Proofs.YtoigpackhninoaaGreatDoor
open Gr
open _root_.Go.Proofs.Tryz
open _root_.Go.Lib (hid)
set_option maxRecDepth 100000
set_option maxHeartbeats 16000000
open Go.RowKit
theorem zdh (date time zone:Bool) (y m d h mi c nanos:Nat) (off:Int) (late:Bool) (hy:y<=999999999) (hm:m<=999999999) (hd:d<=999999999) (hh:h<=999999999) (hmi:mi<=999999999) (hc:c<=999999999) (hn:nanos<=999999999) (w:World):
 Calls prog 105 #[.agg #[.bool date,.bool time,.bool zone,.int .i64 (y:Int),.int .i64 (m:Int),.int .i64 (d:Int),.int .i64 (h:Int),.int .i64 (mi:Int),.int .i64 (c:Int),.int .i64 (nanos:Int),.int .i64 off,.bool late]] w fun e w'=>e=.returned (.string ⟨((if date=true then dateS y m d else[])++(if(date && time)=true then[84]else[])++(if time=true then clkS h mi c nanos else[])++(if zone=true then[90]else[]):Gr.Str).toArray⟩)/\Below w.heap.size w w':=by
 have af:=hid (fun W=>zca y 4 (y:Int) 4 rfl rfl (by omega) (by omega) W);have aB:=za3 4 y;have ae:=hid (fun W=>zca m 2 (m:Int) 2 rfl rfl (by omega) (by omega) W);have aE:=za3 2 m;have Z:=hid (fun W=>zca d 2 (d:Int) 2 rfl rfl (by omega) (by omega) W);have aN:=za3 2 d;have T:=hid (fun W=>zca h 2 (h:Int) 2 rfl rfl (by omega) (by omega) W);have ap:=za3 2 h;have N:=hid (fun W=>zca mi 2 (mi:Int) 2 rfl rfl (by omega) (by omega) W);have av:=za3 2 mi;have R:=hid (fun W=>zca c 2 (c:Int) 2 rfl rfl (by omega) (by omega) W);have aK:=za3 2 c;have aC:=hid (fun W=>zca nanos 9 (nanos:Int) 9 rfl rfl (by omega) (by omega) W);have aA:=za3 9 nanos;obtain⟨py,ah⟩:=ex (Gr.pd 4 y)
 rw[ah]at af aB;obtain⟨pm,ag⟩:=ex (Gr.pd 2 m)
 rw[ag]at ae aE;obtain⟨pd,ab⟩:=ex (Gr.pd 2 d)
 rw[ab]at Z aN;obtain⟨ph,ad⟩:=ex (Gr.pd 2 h)
 rw[ad]at T ap;obtain⟨pi,ai⟩:=ex (Gr.pd 2 mi)
 rw[ai]at N av;obtain⟨pc,ac⟩:=ex (Gr.pd 2 c)
 rw[ac]at R aK;obtain⟨K,B⟩:=ex (Gr.pd 9 nanos)
 rw[B]at aC aA;have G:Hid (dateS y m d=py++[45]++pm++[45]++pd/\clkS h mi c nanos=ph++[58]++pi++[58]++pc++(if nanos=0 then([]:Gr.Str)else 46::trimZ K)/\Gr.pd 9 nanos=K):=hid ⟨by simp only[dateS,ah,ag,ab];simp,by simp only[clkS,nanoS,ad,ai,ac,B];simp,B⟩;clear ah ag ab ad ai ac B;obtain⟨r,hr⟩:∃r:Gr.Str,((if date=true then dateS y m d else[])++(if(date && time)=true then[84]else[])++(if time=true then clkS h mi c nanos else[])++(if zone=true then[90]else[]))=r:=⟨_,rfl⟩
 have ar:=hid hr;rw[hr];clear hr;obtain⟨p,D⟩:=ex w.heap.size
 obtain⟨a,Q⟩:∃a,a=w.alloc (.cells #[.bool date,.bool time,.bool zone,.int .i64 (y:Int),.int .i64 (m:Int),.int .i64 (d:Int),.int .i64 (h:Int),.int .i64 (mi:Int),.int .i64 (c:Int),.int .i64 (nanos:Int),.int .i64 off,.bool late] 111):=⟨_,rfl⟩
 have b:Hid (Blk a p 111 (T12 date time zone (y:Int) (m:Int) (d:Int) (h:Int) (mi:Int) (c:Int) (nanos:Int) off late)/\Below p w a):=hid (by rw[Q,<-D];exact⟨Blk.new _ _ _,(Below.refl _ _).alloc (Nat.le_refl _) _⟩);have ba:=hid D;have ax:Hid (∀W:WB a.heap.size a,Calls prog 139 #[.int .i64 (y:Int),.int .i64 4] W.w fun e w'=>e=.returned (.string ⟨py.toArray⟩)/\Below a.heap.size a w'):=hid (fun W=>(af.out W.w).mono (fun _ _ ⟨q,s⟩=>⟨q,W.h.trans (s.mono W.h.size)⟩));have aF:Hid (∀W:WB a.heap.size a,Calls prog 139 #[.int .i64 (m:Int),.int .i64 2] W.w fun e w'=>e=.returned (.string ⟨pm.toArray⟩)/\Below a.heap.size a w'):=hid (fun W=>(ae.out W.w).mono (fun _ _ ⟨q,s⟩=>⟨q,W.h.trans (s.mono W.h.size)⟩));have aO:Hid (∀W:WB a.heap.size a,Calls prog 139 #[.int .i64 (d:Int),.int .i64 2] W.w fun e w'=>e=.returned (.string ⟨pd.toArray⟩)/\Below a.heap.size a w'):=hid (fun W=>(Z.out W.w).mono (fun _ _ ⟨q,s⟩=>⟨q,W.h.trans (s.mono W.h.size)⟩));have aH:Hid (∀W:WB a.heap.size a,Calls prog 139 #[.int .i64 (h:Int),.int .i64 2] W.w fun e w'=>e=.returned (.string ⟨ph.toArray⟩)/\Below a.heap.size a w'):=hid (fun W=>(T.out W.w).mono (fun _ _ ⟨q,s⟩=>⟨q,W.h.trans (s.mono W.h.size)⟩));have aq:Hid (∀W:WB a.heap.size a,Calls prog 139 #[.int .i64 (mi:Int),.int .i64 2] W.w fun e w'=>e=.returned (.string ⟨pi.toArray⟩)/\Below a.heap.size a w'):=hid (fun W=>(N.out W.w).mono (fun _ _ ⟨q,s⟩=>⟨q,W.h.trans (s.mono W.h.size)⟩));have aL:Hid (∀W:WB a.heap.size a,Calls prog 139 #[.int .i64 (c:Int),.int .i64 2] W.w fun e w'=>e=.returned (.string ⟨pc.toArray⟩)/\Below a.heap.size a w'):=hid (fun W=>(R.out W.w).mono (fun _ _ ⟨q,s⟩=>⟨q,W.h.trans (s.mono W.h.size)⟩));clear af ae Z T N R;go_enter func105,ntmps105;go_upto_region 2 with fail;(try rw[<-Q]);(try rw[D]);clear Q D;have q0:a.cell? ⟨p,0,none⟩=some (.bool date):=(b.out.1.below (Below.refl _ _) b.out.1.lt).cell 0;go_upto_if 6 with fail;go_cut [3] (fun s3 X=>∃S:Gr.Str,s3=.string ⟨S.toArray⟩/\S.length<=60/\Hid (S=(if date=true then dateS y m d else[])/\Below a.heap.size a X))
 case first=>
  cases date with
  |true=>
   go_upto_region 3 with fail;clear q0;have p3:∀W:WB a.heap.size a,W.w.cell? ⟨p,3,none⟩=some (.int .i64 (y:Int)):=fun W=>(b.out.1.below W.h b.out.1.lt).cell 3
   have p4:∀W:WB a.heap.size a,W.w.cell? ⟨p,4,none⟩=some (.int .i64 (m:Int)):=fun W=>(b.out.1.below W.h b.out.1.lt).cell 4
   have p5:∀W:WB a.heap.size a,W.w.cell? ⟨p,5,none⟩=some (.int .i64 (d:Int)):=fun W=>(b.out.1.below W.h b.out.1.lt).cell 5
   obtain⟨s1,F⟩:∃x:Gr.Str,py++[45]=x:=⟨_,rfl⟩
   have Ls1:s1.length<=20:=by rw[<-F];simp<;>omega
   have aT:=fun W=>zac py [45] (by first|omega| (simp<;>omega)) W
   rw[F]at aT;have aQ:=hid F;clear F;obtain⟨s2,H⟩:∃x:Gr.Str,s1++pm=x:=⟨_,rfl⟩
   have Ls2:s2.length<=30:=by rw[<-H];simp<;>omega
   have aV:=fun W=>zac s1 pm (by first|omega| (simp<;>omega)) W
   rw[H]at aV;have a7:=hid H;clear H;obtain⟨s3,z⟩:∃x:Gr.Str,s2++[45]=x:=⟨_,rfl⟩
   have Ls3:s3.length<=40:=by rw[<-z];simp<;>omega
   have a8:=fun W=>zac s2 [45] (by first|omega| (simp<;>omega)) W
   rw[z]at a8;have aZ:=hid z;clear z;obtain⟨s4,A⟩:∃x:Gr.Str,s3++pd=x:=⟨_,rfl⟩
   have a3:s4.length<=60:=by rw[<-A];simp<;>omega
   have a2:=fun W=>zac s3 pd (by first|omega| (simp<;>omega)) W
   rw[A]at a2;have aW:=hid A;clear A;refine zaa a.heap.size a (by kernel_rfl) (by kernel_rfl) (Below.refl _ _) ?_
   iterate 14 (try go_big_quiet_step ((first| (with_reducible refine Calls.grow (ax.out _))| (with_reducible refine Calls.grow (aF.out _))| (with_reducible refine Calls.grow (aO.out _)))))
   refine wpQuiet_nil ?_;rintro _ ⟨wz,rfl⟩;go_wp2;go_meet;exact⟨s4,rfl,a3,hid ⟨by rw[if_pos trivial,G.out.1,<-aW.out,<-aZ.out,<-a7.out,<-aQ.out],wz.h⟩⟩
  |false=>
   go_wp2;go_meet;exact⟨[],rfl,by simp,hid ⟨rfl,Below.refl _ _⟩⟩
 case rest=>
 obtain⟨S,rfl,hS,HS⟩:=hcut;clear q0;obtain⟨q0,q1⟩:=cells2 (b.out.1.below HS.out.2 b.out.1.lt);go_upto_region 4 with fail;obtain⟨wk,aa⟩:∃wk,wk=wc:=⟨_,rfl⟩
 subst aa;go_cut [25] (fun s25 X=>s25=.bool (date && time)/\X=wk)
 case first=>
  cases date<;>cases time
  all_goals
   go_wp2;go_meet;exact⟨rfl,rfl⟩
 case rest=>
 obtain⟨rfl,rfl⟩:=hcut;obtain⟨wk,aa⟩:∃wk,wk=wc:=⟨_,rfl⟩
 subst aa;go_upto_if 25 with fail;obtain⟨dt,O⟩:=ex (date && time)
 have aM:=hid O;(try rw[O]);clear O;go_cut [3] (fun s3 X=>∃U:Gr.Str,s3=.string ⟨U.toArray⟩/\U.length<=61/\Hid (U=S++(if(date && time)=true then[84]else[])/\X=wk))
 case first=>
  cases dt with
  |true=>
   obtain⟨s5,t⟩:∃x:Gr.Str,S++[84]=x:=⟨_,rfl⟩
   have aR:s5.length<=61:=by rw[<-t];simp<;>omega
   have aX:=fun W=>zac S [84] (by first|omega| (simp<;>omega)) W
   rw[t]at aX;have a9:=hid t;clear t;go_wp2;go_meet;exact⟨s5,rfl,aR,hid ⟨by rw[aM.out,if_pos rfl,a9.out],rfl⟩⟩
  |false=>
   go_wp2;go_meet;exact⟨S,rfl,by omega,hid ⟨by rw[aM.out];simp,rfl⟩⟩
 case rest=>
 obtain⟨U,rfl,hU,HU⟩:=hcut;obtain⟨wm,aU⟩:∃wm,wm=wc:=⟨_,rfl⟩
 subst aU;have M:Hid (Below a.heap.size a wm):=hid (by rw[HU.out.2];exact HS.out.2);clear q0 q1;have q1:wm.cell? ⟨p,1,none⟩=some (.bool time):=(b.out.1.below M.out b.out.1.lt).cell 1;go_upto_region 6 with fail;go_upto_if 29 with fail;go_cut [3] (fun s3 X=>∃V:Gr.Str,s3=.string ⟨V.toArray⟩/\V.length<=200/\Hid (V=U++(if time=true then clkS h mi c nanos else[])/\Below a.heap.size a X))
 case first=>
  cases time with
  |false=>
   go_wp2;go_meet;exact⟨U,rfl,by omega,hid ⟨by simp,M.out⟩⟩
  |true=>
   go_upto_region 7 with fail;clear q1;have p6:∀W:WB a.heap.size a,W.w.cell? ⟨p,6,none⟩=some (.int .i64 (h:Int)):=fun W=>(b.out.1.below W.h b.out.1.lt).cell 6
   have p7:∀W:WB a.heap.size a,W.w.cell? ⟨p,7,none⟩=some (.int .i64 (mi:Int)):=fun W=>(b.out.1.below W.h b.out.1.lt).cell 7
   have p8:∀W:WB a.heap.size a,W.w.cell? ⟨p,8,none⟩=some (.int .i64 (c:Int)):=fun W=>(b.out.1.below W.h b.out.1.lt).cell 8
   obtain⟨s6,C⟩:∃x:Gr.Str,U++ph=x:=⟨_,rfl⟩
   have Ls6:s6.length<=80:=by rw[<-C];simp<;>omega
   have am:=fun W=>zac U ph (by first|omega| (simp<;>omega)) W
   rw[C]at am;have bb:=hid C;clear C;obtain⟨s7,E⟩:∃x:Gr.Str,s6++[58]=x:=⟨_,rfl⟩
   have Ls7:s7.length<=90:=by rw[<-E];simp<;>omega
   have aG:=fun W=>zac s6 [58] (by first|omega| (simp<;>omega)) W
   rw[E]at aG;have a0:=hid E;clear E;obtain⟨s8,u⟩:∃x:Gr.Str,s7++pi=x:=⟨_,rfl⟩
   have Ls8:s8.length<=110:=by rw[<-u];simp<;>omega
   have aD:=fun W=>zac s7 pi (by first|omega| (simp<;>omega)) W
   rw[u]at aD;have a1:=hid u;clear u;obtain⟨s9,v⟩:∃x:Gr.Str,s8++[58]=x:=⟨_,rfl⟩
   have Ls9:s9.length<=120:=by rw[<-v];simp<;>omega
   have al:=fun W=>zac s8 [58] (by first|omega| (simp<;>omega)) W
   rw[v]at al;have aS:=hid v;clear v;obtain⟨s10,j⟩:∃x:Gr.Str,s9++pc=x:=⟨_,rfl⟩
   have Ls10:s10.length<=140:=by rw[<-j];simp<;>omega
   have L:=fun W=>zac s9 pc (by first|omega| (simp<;>omega)) W
   rw[j]at L;have ao:=hid j;clear j;refine zaa a.heap.size a (by kernel_rfl) (by kernel_rfl) M.out ?_
   iterate 16 (try go_big_quiet_step ((first| (with_reducible refine Calls.grow (aH.out _))| (with_reducible refine Calls.grow (aq.out _))| (with_reducible refine Calls.grow (aL.out _)))))
   refine wpQuiet_nil ?_;rintro _ ⟨wy,rfl⟩;have ak:Hid (U++clkS h mi c nanos=s10++(if nanos=0 then([]:Gr.Str)else 46::trimZ K)):=hid (by rw[G.out.2.1,<-ao.out,<-aS.out,<-a1.out,<-a0.out,<-bb.out];simp);clear p6 p7 p8 am aG aD al L;have q9:wy.w.cell? ⟨p,9,none⟩=some (.int .i64 (nanos:Int)):=(b.out.1.below wy.h b.out.1.lt).cell 9;go_wp2_with fail;refine(aC.out _).mono ?_;rintro e w5 ⟨rfl,aj⟩;have an:Hid (Below a.heap.size a w5):=hid (wy.h.trans (aj.mono wy.h.size));clear aj q9;go_wp2_with fail;go_loop [4] (fun s4=>∃f:Gr.Str,s4=.string ⟨f.toArray⟩/\f.length<=9/\Hid (trimZ f=trimZ K)) (fun s4=>match s4 with| .string x=>x.size|_=>0)
   case atStart=>exact⟨K,rfl,by omega,hid rfl⟩
   case round=>
    obtain⟨f,rfl,au,I⟩:=hrel;rcases List.eq_nil_or_concat f with rfl|⟨g,ch,hfg⟩
    ·have Y:Hid (U++clkS h mi c nanos=s10):=hid (by
      rw[ak.out];have h1:=I.out;rw[show(if nanos=0 then([]:Gr.Str)else 46::trimZ K)=[]from by
       by_cases h0:nanos=0
       ·rw[if_pos h0]
       ·exact absurd h1.symm (by rw[<-G.out.2.2];exact zox 9 nanos (by omega) (by omega))]
      simp)
     go_wp2;go_meet;exact⟨s10,rfl,by omega,hid ⟨by rw[if_pos trivial,Y.out],an.out⟩⟩
    ·have P:f=g++[ch]:=by rw[hfg];simp
     have hgl:g.length<=8:=by rw[P]at au;simp at au;omega
     have hg2:(f.length:Int)-1=(g.length:Int):=by rw[P];simp
     have i:g.length<f.length:=by rw[P];simp
     have o:f[g.length]'i=ch:=by
      have:∀l:Gr.Str,l=g++[ch]->∀h,l[g.length]'h=ch:=by rintro _ rfl h;simp
      exact this f P i
     have hcut:=fun W=>zt9 f g.length (g.length:Int) rfl (Nat.le_of_lt i) W
     rw[show f.take g.length=g from by rw[P];simp]at hcut;have aJ:Hid (trimZ f=if ch=48 then trimZ g else f):=hid (by rw[P];exact zfz g ch);clear P hfg;have hF0:(0:Int)<(f.length:Int):=by omega
     have J:0<f.length:=by omega
     by_cases hz:ch=48
     ·have a6:=zaw f g.length i ch 48 48 (by decide) o hz;have a4:=zap f g.length i ch 48 48 (by decide) o hz;have a5:Hid (trimZ g=trimZ K):=hid (by rw[<-I.out,aJ.out,if_pos hz]);have hms:g.length<f.length:=i;clear o hz;go_wp2;go_round
      case rel=>exact⟨g,rfl,by omega,a5⟩
      case measure=>simp[ByteArray.size];omega
     ·have a6:=zan f g.length i ch 48 48 (by decide) o hz;have a4:=zaq f g.length i ch 48 48 (by decide) o hz;have aI:Hid (trimZ K=f):=hid (by rw[<-I.out,aJ.out,if_neg hz]);clear o hz hcut;obtain⟨s11,n⟩:∃x:Gr.Str,s10++[46]=x:=⟨_,rfl⟩
      have Ls11:s11.length<=150:=by rw[<-n];simp<;>omega
      have ay:=fun W=>zac s10 [46] (by first|omega| (simp<;>omega)) W
      rw[n]at ay;have az:=hid n;clear n;obtain⟨s12,k⟩:∃x:Gr.Str,s11++f=x:=⟨_,rfl⟩
      have Ls12:s12.length<=170:=by rw[<-k];simp<;>omega
      have aw:=fun W=>zac s11 f (by first|omega| (simp<;>omega)) W
      rw[k]at aw;have aP:=hid k;clear k;have Y:Hid (U++clkS h mi c nanos=s12):=hid (by
       rw[ak.out,<-aP.out,<-az.out];have aY:¬nanos=0:=fun h0=>by
        have h1:=G.out.2.2;rw[h0,zov]at h1;have h2:=aI.out;rw[<-h1,zlx]at h2;rw[<-h2]at J;simp at J
       rw[if_neg aY,aI.out];simp)
      go_wp2;go_meet;exact⟨s12,rfl,by omega,hid ⟨by rw[if_pos trivial,Y.out],an.out⟩⟩
 case rest=>
 obtain⟨V,rfl,hV,I⟩:=hcut;clear q1;have q2:wc.cell? ⟨p,2,none⟩=some (.bool zone):=(b.out.1.below I.out.2 b.out.1.lt).cell 2;have b2:=fun W=>zac V [90] (by first|omega| (simp<;>omega)) W
 have HZ:Hid (Below w.heap.size w wc):=hid (by rw[ba.out];exact b.out.2.trans (I.out.2.mono (Nat.le_of_lt b.out.1.lt)));cases zone with
 |true=>
  have Y:Hid (r=V++[90]):=hid (by rw[<-ar.out,I.out.1,HU.out.1,HS.out.1];rfl);go_wp2;go_ret;exact⟨by rw[Y.out]<;>rfl,HZ.out⟩
 |false=>
  have Y:Hid (r=V):=hid (by rw[<-ar.out,I.out.1,HU.out.1,HS.out.1];simp);go_wp2;go_ret;exact⟨by rw[Y.out]<;>rfl,HZ.out⟩
theorem zpv (y m d h mi c nanos:Nat) (off:Int) (late:Bool) (hy:y<=999999999) (hm:m<=999999999) (hd:d<=999999999) (hh:h<=999999999) (hmi:mi<=999999999) (hc:c<=999999999) (hn:nanos<=999999999) (w:World):
 Calls prog 105 #[.agg #[.bool true,.bool false,.bool false,.int .i64 (y:Int),.int .i64 (m:Int),.int .i64 (d:Int),.int .i64 (h:Int),.int .i64 (mi:Int),.int .i64 (c:Int),.int .i64 (nanos:Int),.int .i64 off,.bool late]] w fun e w'=>e=.returned (.string ⟨(dateS y m d:Gr.Str).toArray⟩)/\Below w.heap.size w w':=by
 simpa using zdh true false false y m d h mi c nanos off late hy hm hd hh hmi hc hn w
theorem zpw (y m d h mi c nanos:Nat) (off:Int) (late:Bool) (hy:y<=999999999) (hm:m<=999999999) (hd:d<=999999999) (hh:h<=999999999) (hmi:mi<=999999999) (hc:c<=999999999) (hn:nanos<=999999999) (w:World):
 Calls prog 105 #[.agg #[.bool false,.bool true,.bool false,.int .i64 (y:Int),.int .i64 (m:Int),.int .i64 (d:Int),.int .i64 (h:Int),.int .i64 (mi:Int),.int .i64 (c:Int),.int .i64 (nanos:Int),.int .i64 off,.bool late]] w fun e w'=>e=.returned (.string ⟨(clkS h mi c nanos:Gr.Str).toArray⟩)/\Below w.heap.size w w':=by
 simpa using zdh false true false y m d h mi c nanos off late hy hm hd hh hmi hc hn w
theorem zpx (y m d h mi c nanos:Nat) (off:Int) (late:Bool) (hy:y<=999999999) (hm:m<=999999999) (hd:d<=999999999) (hh:h<=999999999) (hmi:mi<=999999999) (hc:c<=999999999) (hn:nanos<=999999999) (w:World):
 Calls prog 105 #[.agg #[.bool true,.bool true,.bool false,.int .i64 (y:Int),.int .i64 (m:Int),.int .i64 (d:Int),.int .i64 (h:Int),.int .i64 (mi:Int),.int .i64 (c:Int),.int .i64 (nanos:Int),.int .i64 off,.bool late]] w fun e w'=>e=.returned (.string ⟨((dateS y m d++[84]++clkS h mi c nanos):Gr.Str).toArray⟩)/\Below w.heap.size w w':=by
 simpa using zdh true true false y m d h mi c nanos off late hy hm hd hh hmi hc hn w
theorem zpy (y m d h mi c nanos:Nat) (off:Int) (late:Bool) (hy:y<=999999999) (hm:m<=999999999) (hd:d<=999999999) (hh:h<=999999999) (hmi:mi<=999999999) (hc:c<=999999999) (hn:nanos<=999999999) (w:World):
 Calls prog 105 #[.agg #[.bool true,.bool true,.bool true,.int .i64 (y:Int),.int .i64 (m:Int),.int .i64 (d:Int),.int .i64 (h:Int),.int .i64 (mi:Int),.int .i64 (c:Int),.int .i64 (nanos:Int),.int .i64 off,.bool late]] w fun e w'=>e=.returned (.string ⟨((dateS y m d++[84]++clkS h mi c nanos++[90]):Gr.Str).toArray⟩)/\Below w.heap.size w w':=by
 simpa using zdh true true true y m d h mi c nanos off late hy hm hd hh hmi hc hn w
theorem zr2 (m:Nat) (hm:m<18446744073709551616) (i:Int) (hi:i=(m:Int)) (w:World):Calls prog 79 #[.int .u64 i] w fun e w'=>e=.returned (.int .i64 (Lib.bitLen m))/\w=w':=by
 subst hi;obtain⟨B,a⟩:=ex (Lib.bitLen m)
 have g:=hid a;have hb64:B<=64:=by rw[<-a];exact Lib.bitLen_le m 64 (by omega) (by omega)
 rw[a];clear a;go_enter func79,ntmps79;go_wp2_with fail;go_loop [0,3] (fun s0 s3=>∃x n:Nat,x<18446744073709551616/\n<=B/\s0=.int .u64 (x:Int)/\s3=.int .i64 (n:Int)/\Hid (B=n+Lib.bitLen x)) (fun s0 _=>(intOf s0).toNat)
 case atStart=>exact⟨m,0,hm,by omega,rfl,rfl,hid (by rw[<-g.out];omega)⟩
 case round=>
  obtain⟨x,n,hx,hn,rfl,rfl,b⟩:=hrel;by_cases h0:0<x
  ·have h0I:(0:Int)<(x:Int):=by omega
   have c:Hid (B=(n+1)+Lib.bitLen (x /2)/\n+1<=B):=hid (by
    have f:=b.out;rw[Lib.bitLen_half x (by omega) (by omega)]at f;omega)
   go_wp2;go_round
   case rel=>exact⟨x /2,n+1,by omega,c.out.2,by go_num,by go_num,hid c.out.1⟩
   case measure=>simp[intOf];omega
  ·obtain rfl:x=0:=by omega
   have d:Hid (B=n):=hid (by have:=b.out;rw[this];rfl);go_wp2;go_ret;rw[d.out];exact⟨rfl,rfl⟩
def nodash (l:Gr.Str):Gr.Str:=l.filter (fun c=>c != 45)
theorem zfx (l:Gr.Str) (h:l.all Gr.dig=true):nodash l=l:=by
 unfold nodash;rw[List.filter_eq_self];intro c a;have:=List.all_eq_true.1 h c a;cases hh:(c != 45)with
 |true=>rfl
 |false=>
  have e:c=45:=by simpa using hh
  subst e;simp[Gr.dig]at this
theorem zfy {s:Gr.Str} (h:intB s=true):nodash s=intS s/\(intS s).all Gr.dig=true/\(∀c∈s,c=45\/Gr.dig c=true)/\0<s.length:=by
 unfold intB at h;split at h
 ·cases h
 ·rename_i hn;have a:0<s.length:=by
   rcases Nat.eq_zero_or_pos s.length with h0|h0
   ·exact absurd (.inl (by unfold intS;rw[if_neg (by omega)];exact h0)) hn
   ·exact h0
  refine⟨?_,h,?_,a⟩
  ·unfold intS at h ⊢;split
   ·rename_i hc;rw[if_pos hc]at h;cases s with
    |nil=>simp at hc
    |cons c r=>
     simp at hc;obtain⟨_,rfl⟩:=hc;show nodash (45::r)=r;have:nodash (45::r)=nodash r:=by unfold nodash;rw[List.filter_cons_of_neg (by decide)]
     rw[this];exact zfx r h
   ·rename_i hc;rw[if_neg hc]at h;exact zfx s h
  ·intro c hc;unfold intS at h;split at h
   ·rename_i h1;cases s with
    |nil=>cases hc
    |cons d r=>
     simp at h1;rcases List.mem_cons.1 hc with rfl|hc
     ·exact .inl h1.2
     ·exact .inr (List.all_eq_true.1 h c hc)
   ·exact .inr (List.all_eq_true.1 h c hc)
def NPost (o:Option Int) (w:World) (e:Ending) (w':World):Prop:=e=.returned (.tuple #[.int .i64 (o.getD 0),.bool o.isSome])/\w=w'
theorem zt8 (l:Gr.Str) (h:l.all Gr.dig=true) (hl:l.length<=18):Gr.val l<1000000000000000000:=Nat.lt_of_lt_of_le (zet l h) (Nat.pow_le_pow_right (n:=10) (by omega) hl)
theorem zi7 (s:Gr.Str) (hs:∀c∈s,c=45\/Gr.dig c=true) (k:Nat):(nodash (s.take k)).all Gr.dig=true/\(nodash (s.take k)).length<=k:=by
 constructor
 ·rw[List.all_eq_true];intro c b;obtain⟨d,a⟩:=List.mem_filter.1 b;rcases hs c (List.mem_of_mem_take d)with rfl|h
  ·cases a
  ·exact h
 ·exact Nat.le_trans (List.length_filter_le _ _) (by simp;omega)
theorem zi8 (s:Gr.Str) (k:Nat) (h:k<s.length):nodash (s.take (k+1))=nodash (s.take k)++(if s[k]=45 then[]else[s[k]]):=by
 unfold nodash;rw[List.take_succ_eq_append_getElem h,List.filter_append]
 congr 1
 by_cases e:s[k]=45
 ·rw[if_pos e,e];rfl
 ·rw[if_neg e];simp[e]
theorem zkk (s:Gr.Str) (hl:s.length<=1073741823) (w:World):Calls prog 78 #[.string ⟨s.toArray⟩] w (NPost (numb s) w):=by
 have g:=hid (fun W=>zfw s hl W);obtain⟨r,y⟩:=ex (numb s)
 have f:Hid ((if intB s=true/\s.length<=18 then some (if s.head?=some 45 then -(Gr.val (intS s):Int)else(Gr.val (intS s):Int))else none)=r):=hid y;rw[y];clear y;cases hi:intB s with
 |false=>
  rw[hi]at g;have a:Hid (r=none):=hid (by rw[<-f.out,if_neg (by rw[hi];simp)]);clear hi f;go_enter func78,ntmps78;go_wp2_with fail;refine(g.out _).mono ?_;rintro _ C ⟨rfl,rfl⟩;go_wp2;go_ret2;rw[a.out];exact⟨rfl,rfl⟩
 |true=>
  rw[hi]at g;by_cases h18:s.length<=18
  ·have l:¬(18:Int)<(s.length:Int):=by omega
   obtain⟨A,L,E,c⟩:=zfy hi;have i:Hid ((some (if s.head?=some 45 then -(Gr.val (nodash s):Int)else(Gr.val (nodash s):Int)))=r):=hid (by
    have h:=f.out;rw[if_pos ⟨hi,h18⟩]at h;rw[A];exact h)
   have H:=hid E;have h0I:(0:Int)<(s.length:Int):=by omega
   clear hi f A L E;go_enter func78,ntmps78;go_wp2_with fail;refine(g.out _).mono ?_;rintro _ C ⟨rfl,rfl⟩;go_wp2_with fail;go_loop [4,5] (fun s4 s5=>∃k v:Nat,k<=s.length/\v<1000000000000000000/\s4=.int .i64 (v:Int)/\s5=.int .i64 (k:Int)/\Hid (v=Gr.val (nodash (s.take k)))) (fun _ s5=>s.length-(intOf s5).toNat)
   case atStart=>exact⟨0,0,by omega,by omega,rfl,rfl,hid rfl⟩
   case round=>
    obtain⟨k,v,hk,N,rfl,rfl,z⟩:=hrel;by_cases hlt:k<s.length
    ·have hltI:(k:Int)<(s.length:Int):=by omega
     have D:=hid (zi8 s k hlt);have K:=hid (H.out s[k] (List.getElem_mem hlt));have B:=hid (zi7 s H.out (k+1));by_cases h45:s[k]=45
     ·have G:=zaw s k hlt _ 45 45 rfl rfl h45;have F:=zap s k hlt _ 45 45 rfl rfl h45;have I:=hid h45;clear h45;go_wp2;go_round
      case rel=>exact⟨k+1,v,by omega,N,rfl,by go_num,hid (by rw[D.out,if_pos I.out,List.append_nil];exact z.out)⟩
      case measure=>simp[intOf];omega
     ·have J:=zan s k hlt _ 45 45 rfl rfl h45;have M:=zaq s k hlt _ 45 45 rfl rfl h45;have n:Gr.dig s[k]=true:=K.out.resolve_left h45;obtain⟨b,q⟩:∃b:Nat,(s[k]'hlt).toNat=b:=⟨_,rfl⟩
      have u:(((⟨s.toArray⟩:ByteArray)[k]'(by simpa[ByteArray.size]using hlt)).toNat:Int)=(b:Int):=by rw[<-q];rfl
      have d:=zkj (s[k]'hlt) b q;rw[n]at d;have m:48<=b/\b<=57:=by have:=d.symm;simpa using this
      have p:Gr.dv s[k]=b-48:=by unfold Gr.dv;rw[q]
      have j:Hid (10*v+(b-48)=Gr.val (nodash (s.take (k+1)))):=hid (by
       rw[D.out,if_neg h45,zbj,<-z.out,p])
      have x:10*v+(b-48)<1000000000000000000:=by
       rw[j.out];exact zt8 _ B.out.1 (by have:=B.out.2;omega)
      rw[u]at J M;obtain⟨hb1,hb2⟩:=m;clear d n q p h45;go_wp2;go_round
      case rel=>exact⟨k+1,10*v+(b-48),by omega,x,by exact congrArg (Value.int .i64) (by omega),by go_num,hid j.out⟩
      case measure=>simp[intOf];omega
    ·obtain rfl:k=s.length:=by omega
     have o:Hid (v=Gr.val (nodash s)):=hid (by have:=z.out;rwa[List.take_length]at this);have t:s.head?=some (s[0]'c):=by rw[List.head?_eq_getElem?,List.getElem?_eq_getElem c]
     by_cases h45:s[0]'c=45
     ·have G:=zaw s 0 c _ 45 45 rfl rfl h45;have F:=zap s 0 c _ 45 45 rfl rfl h45;have a:Hid (r=some (-(v:Int))):=hid (by rw[<-i.out,t,h45,if_pos rfl,o.out]);clear h45 t;go_wp2;go_ret2;rw[a.out];exact⟨rfl,rfl⟩
     ·have G:=zan s 0 c _ 45 45 rfl rfl h45;have F:=zaq s 0 c _ 45 45 rfl rfl h45;have a:Hid (r=some (v:Int)):=hid (by rw[<-i.out,t,if_neg (by intro e;injection e with e;exact h45 e),o.out]);clear h45 t;go_wp2;go_ret2;rw[a.out];exact⟨rfl,rfl⟩
  ·have l:(18:Int)<(s.length:Int):=by omega
   have a:Hid (r=none):=hid (by rw[<-f.out,if_neg (by rintro⟨_,h⟩;exact h18 h)]);clear hi f;go_enter func78,ntmps78;go_wp2_with fail;refine(g.out _).mono ?_;rintro _ C ⟨rfl,rfl⟩;go_wp2;go_ret2;rw[a.out];exact⟨rfl,rfl⟩
theorem za2 {w:World} {g:Nat} {t:TypeId} {c0 c1 c2 c3 v0 v1 v2 v3:Value} (h:Blk w g t #[c0,c1,c2,c3]):Blk ((((w.setCell ⟨g,0,none⟩ v0).setCell ⟨g,1,none⟩ v1).setCell ⟨g,2,none⟩ v2).setCell ⟨g,3,none⟩ v3) g t #[v0,v1,v2,v3]:=by
 have a:=((((h.set_ 0 v0).set_ 1 v1).set_ 2 v2).set_ 3 v3)
 simp only[List.setIfInBounds_toArray,List.set_cons_zero,List.set_cons_succ]at a;exact a
theorem below4 {w0 w:World} {g B:Nat} (h:Below B w0 w) (hB:B<=g) (v0 v1 v2 v3:Value):Below B w0 ((((w.setCell ⟨g,0,none⟩ v0).setCell ⟨g,1,none⟩ v1).setCell ⟨g,2,none⟩ v2).setCell ⟨g,3,none⟩ v3):=
 (((h.setCell (p:=⟨g,0,none⟩) hB _).setCell (p:=⟨g,1,none⟩) hB _).setCell (p:=⟨g,2,none⟩) hB _).setCell (p:=⟨g,3,none⟩) hB _
def OfF (b:Bool) (w:World) (e:Ending) (w':World):Prop:=(∃(k:Int) (n:Bool) (m x:Int),e=.returned (.tuple #[.agg #[.int .i64 k,.bool n,.int .u64 m,.int .i64 x],.bool b]))/\Below w.heap.size w w'
theorem zw7 (neg ok is r:Bool) (m e:Int) (hm0:-1000000000000000000<m) (hm1:m<1000000000000000000) (he0:-1000000000000000000<e) (he1:e<1000000000000000000) (gb:Nat) (w wx:World) (HM:Hid (Blk wx gb 74 #[.int .i64 0,.bool false,.int .u64 0,.int .i64 0]/\Below w.heap.size w wx/\w.heap.size<=gb)) (HR:Hid ((ok && is && mokB m e)=r)) {u0 u1 u3 u5 u6 u11 u12 u13 u14 u15 u16 u17 u18 u19 u20 u21 u22 u23 u24 u25 u26 u27 u28 u29 u30 u31 u32 u33 u34 u35 u36 u37 u38 u39 u40 u41 u42 u43 u44 u45 u46 u47 u48 u49 u50 u51 u52 u53 u54 u55 u56 u57 u58 u59 u60 u61 u62 u63 u64 u65 u66 u67 u68 u69 u70 u71 u72 u73 u74 u75 u76 u77 u78 u79 u80 u81 u82 u83 u84 u85 u86 u87 u88 u89 u90 u91 u92 u93 u94 u95 u96 u97 u98 u99 u100 u101 u102 u103 u104 u105 u106 u107 u108 u109 u110 u111 u112 u113 u114 u115 u116:Value}:
 Code.wp prog (tl 11 (f45.body.getD .skip)) (bodyPost prog f45 (OfF r w)) {tmps:=List.toArray (u0::u1::.pointer (some ⟨gb,0,none⟩)::u3::.bool neg::u5::u6::.int .i64 m::.bool ok::.int .i64 e::.bool is::u11::u12::u13::u14::u15::u16::u17::u18::u19::u20::u21::u22::u23::u24::u25::u26::u27::u28::u29::u30::u31::u32::u33::u34::u35::u36::u37::u38::u39::u40::u41::u42::u43::u44::u45::u46::u47::u48::u49::u50::u51::u52::u53::u54::u55::u56::u57::u58::u59::u60::u61::u62::u63::u64::u65::u66::u67::u68::u69::u70::u71::u72::u73::u74::u75::u76::u77::u78::u79::u80::u81::u82::u83::u84::u85::u86::u87::u88::u89::u90::u91::u92::u93::u94::u95::u96::u97::u98::u99::u100::u101::u102::u103::u104::u105::u106::u107::u108::u109::u110::u111::u112::u113::u114::u115::u116::[]),defers:=[]} wx:=by
 generalize hc0:tl 11 (f45.body.getD .skip)=c0;simp only[tl,f45,Option.getD_some]at hc0;subst hc0;obtain⟨q0,q1,q2,q3⟩:=cells4 HM.out.1;have qf:∀j,wx.frozen? ⟨gb,j,none⟩=false:=HM.out.1.frozen;cases ok with
 |false=>
  have d:Hid (r=false):=hid (by rw[<-HR.out];rfl);go_wp2_with fail;have c:Blk ((((wx.setCell ⟨gb,0,none⟩ (.int .i64 0)).setCell ⟨gb,1,none⟩ (.bool false)).setCell ⟨gb,2,none⟩ (.int .u64 0)).setCell ⟨gb,3,none⟩ (.int .i64 0)) gb 74 #[.int .i64 0,.bool false,.int .u64 0,.int .i64 0]:=za2 HM.out.1;obtain⟨n,k,o,l⟩:=cells4 c;have a:Below w.heap.size w ((((wx.setCell ⟨gb,0,none⟩ (.int .i64 0)).setCell ⟨gb,1,none⟩ (.bool false)).setCell ⟨gb,2,none⟩ (.int .u64 0)).setCell ⟨gb,3,none⟩ (.int .i64 0)):=below4 HM.out.2.1 HM.out.2.2 _ _ _ _;refine bodyPost_ret (v:=.tuple #[.agg #[.int .i64 0,.bool false,.int .u64 0,.int .i64 0],.bool false]) (by rw[results_cell_tmp rfl];go_simp) rfl ?_;rw[d.out];exact⟨⟨_,_,_,_,rfl⟩,a⟩
 |true=>
  cases is with
  |false=>
   have d:Hid (r=false):=hid (by rw[<-HR.out];rfl);go_wp2_with fail;have c:Blk ((((wx.setCell ⟨gb,0,none⟩ (.int .i64 0)).setCell ⟨gb,1,none⟩ (.bool false)).setCell ⟨gb,2,none⟩ (.int .u64 0)).setCell ⟨gb,3,none⟩ (.int .i64 0)) gb 74 #[.int .i64 0,.bool false,.int .u64 0,.int .i64 0]:=za2 HM.out.1;obtain⟨n,k,o,l⟩:=cells4 c;have a:Below w.heap.size w ((((wx.setCell ⟨gb,0,none⟩ (.int .i64 0)).setCell ⟨gb,1,none⟩ (.bool false)).setCell ⟨gb,2,none⟩ (.int .u64 0)).setCell ⟨gb,3,none⟩ (.int .i64 0)):=below4 HM.out.2.1 HM.out.2.2 _ _ _ _;refine bodyPost_ret (v:=.tuple #[.agg #[.int .i64 0,.bool false,.int .u64 0,.int .i64 0],.bool false]) (by rw[results_cell_tmp rfl];go_simp) rfl ?_;rw[d.out];exact⟨⟨_,_,_,_,rfl⟩,a⟩
  |true=>
   have i:Hid (mokB m e=r):=hid (by have:=HR.out;simpa using this);clear HR;by_cases hn:m<0
   ·have d:Hid (r=false):=hid (by rw[<-i.out];unfold mokB;rw[decide_eq_true hn];rfl);go_wp2_with fail;have c:Blk ((((wx.setCell ⟨gb,0,none⟩ (.int .i64 0)).setCell ⟨gb,1,none⟩ (.bool false)).setCell ⟨gb,2,none⟩ (.int .u64 0)).setCell ⟨gb,3,none⟩ (.int .i64 0)) gb 74 #[.int .i64 0,.bool false,.int .u64 0,.int .i64 0]:=za2 HM.out.1;obtain⟨n,k,o,l⟩:=cells4 c;have a:Below w.heap.size w ((((wx.setCell ⟨gb,0,none⟩ (.int .i64 0)).setCell ⟨gb,1,none⟩ (.bool false)).setCell ⟨gb,2,none⟩ (.int .u64 0)).setCell ⟨gb,3,none⟩ (.int .i64 0)):=below4 HM.out.2.1 HM.out.2.2 _ _ _ _;refine bodyPost_ret (v:=.tuple #[.agg #[.int .i64 0,.bool false,.int .u64 0,.int .i64 0],.bool false]) (by rw[results_cell_tmp rfl];go_simp) rfl ?_;rw[d.out];exact⟨⟨_,_,_,_,rfl⟩,a⟩
   ·by_cases hz:m=0
    ·subst hz;have p:((0:Int)==0)=true:=rfl;have s:((0:Int) != 0)=false:=rfl;by_cases hez:e=0
     ·have h:(e==0)=true:=by simpa using hez
      have q:(e != 0)=false:=by rw[bne,h];rfl
      have d:Hid (r=true):=hid (by rw[<-i.out,hez];decide);clear hez;go_wp2_with fail;have c:Blk ((((wx.setCell ⟨gb,0,none⟩ (.int .i64 0)).setCell ⟨gb,1,none⟩ (.bool neg)).setCell ⟨gb,2,none⟩ (.int .u64 0)).setCell ⟨gb,3,none⟩ (.int .i64 e)) gb 74 #[.int .i64 0,.bool neg,.int .u64 0,.int .i64 e]:=za2 HM.out.1;obtain⟨n,k,o,l⟩:=cells4 c;have a:Below w.heap.size w ((((wx.setCell ⟨gb,0,none⟩ (.int .i64 0)).setCell ⟨gb,1,none⟩ (.bool neg)).setCell ⟨gb,2,none⟩ (.int .u64 0)).setCell ⟨gb,3,none⟩ (.int .i64 e)):=below4 HM.out.2.1 HM.out.2.2 _ _ _ _;refine bodyPost_ret (v:=.tuple #[.agg #[.int .i64 0,.bool neg,.int .u64 0,.int .i64 e],.bool true]) (by rw[results_cell_tmp rfl];go_simp) rfl ?_;rw[d.out];exact⟨⟨_,_,_,_,rfl⟩,a⟩
     ·have h:(e==0)=false:=by simpa using hez
      have q:(e != 0)=true:=by rw[bne,h];rfl
      have d:Hid (r=false):=hid (by rw[<-i.out];unfold mokB;simp[hez]);clear hez;go_wp2_with fail;have c:Blk ((((wx.setCell ⟨gb,0,none⟩ (.int .i64 0)).setCell ⟨gb,1,none⟩ (.bool false)).setCell ⟨gb,2,none⟩ (.int .u64 0)).setCell ⟨gb,3,none⟩ (.int .i64 0)) gb 74 #[.int .i64 0,.bool false,.int .u64 0,.int .i64 0]:=za2 HM.out.1;obtain⟨n,k,o,l⟩:=cells4 c;have a:Below w.heap.size w ((((wx.setCell ⟨gb,0,none⟩ (.int .i64 0)).setCell ⟨gb,1,none⟩ (.bool false)).setCell ⟨gb,2,none⟩ (.int .u64 0)).setCell ⟨gb,3,none⟩ (.int .i64 0)):=below4 HM.out.2.1 HM.out.2.2 _ _ _ _;refine bodyPost_ret (v:=.tuple #[.agg #[.int .i64 0,.bool false,.int .u64 0,.int .i64 0],.bool false]) (by rw[results_cell_tmp rfl];go_simp) rfl ?_;rw[d.out];exact⟨⟨_,_,_,_,rfl⟩,a⟩
    ·have p:(m==0)=false:=by simpa using hz
     have s:(m != 0)=true:=by rw[bne,p];rfl
     have hmp:0<m:=by omega
     have hwr:IntKind.u64.wrap m=m:=by rw[IntKind.wrap_u64];omega
     have f:=hid (fun W=>zr2 m.toNat (by omega) m (by omega) W);obtain⟨b,t⟩:=ex (Lib.bitLen m.toNat)
     have hb64:b<=64:=by rw[<-t];exact Lib.bitLen_le _ 64 (by omega) (by omega)
     have g:Hid (r=!(decide (m%2=0) || decide (53<b) || decide (e< -1074) || decide (1023<e) || decide (1024<e+b))):=hid (by
      rw[<-i.out];unfold mokB;rw[t,decide_eq_false hn,p,s];simp only[Bool.false_or,Bool.false_and,Bool.true_and];rfl)
     rw[t]at f;clear t hz i;by_cases k1:m%2=0
     ·have u:(m%2==0)=true:=by simpa using k1
      have d:Hid (r=false):=hid (by rw[g.out];simp[k1]);clear k1;go_wp2_with fail;have c:Blk ((((wx.setCell ⟨gb,0,none⟩ (.int .i64 0)).setCell ⟨gb,1,none⟩ (.bool false)).setCell ⟨gb,2,none⟩ (.int .u64 0)).setCell ⟨gb,3,none⟩ (.int .i64 0)) gb 74 #[.int .i64 0,.bool false,.int .u64 0,.int .i64 0]:=za2 HM.out.1;obtain⟨n,k,o,l⟩:=cells4 c;have a:Below w.heap.size w ((((wx.setCell ⟨gb,0,none⟩ (.int .i64 0)).setCell ⟨gb,1,none⟩ (.bool false)).setCell ⟨gb,2,none⟩ (.int .u64 0)).setCell ⟨gb,3,none⟩ (.int .i64 0)):=below4 HM.out.2.1 HM.out.2.2 _ _ _ _;refine bodyPost_ret (v:=.tuple #[.agg #[.int .i64 0,.bool false,.int .u64 0,.int .i64 0],.bool false]) (by rw[results_cell_tmp rfl];go_simp) rfl ?_;rw[d.out];exact⟨⟨_,_,_,_,rfl⟩,a⟩
     ·have u:(m%2==0)=false:=by simpa using k1
      by_cases k2:53<b
      ·have x:(53:Int)<(b:Int):=by omega
       have d:Hid (r=false):=hid (by rw[g.out];simp[k2]);clear k1 k2;go_wp2_with fail;refine(f.out _).mono ?_;rintro _ wx ⟨rfl,rfl⟩;go_wp2_with fail;have c:Blk ((((wx.setCell ⟨gb,0,none⟩ (.int .i64 0)).setCell ⟨gb,1,none⟩ (.bool false)).setCell ⟨gb,2,none⟩ (.int .u64 0)).setCell ⟨gb,3,none⟩ (.int .i64 0)) gb 74 #[.int .i64 0,.bool false,.int .u64 0,.int .i64 0]:=za2 HM.out.1;obtain⟨n,k,o,l⟩:=cells4 c;have a:Below w.heap.size w ((((wx.setCell ⟨gb,0,none⟩ (.int .i64 0)).setCell ⟨gb,1,none⟩ (.bool false)).setCell ⟨gb,2,none⟩ (.int .u64 0)).setCell ⟨gb,3,none⟩ (.int .i64 0)):=below4 HM.out.2.1 HM.out.2.2 _ _ _ _;refine bodyPost_ret (v:=.tuple #[.agg #[.int .i64 0,.bool false,.int .u64 0,.int .i64 0],.bool false]) (by rw[results_cell_tmp rfl];go_simp) rfl ?_;rw[d.out];exact⟨⟨_,_,_,_,rfl⟩,a⟩
      ·have x:¬(53:Int)<(b:Int):=by omega
       by_cases k3:e< -1074
       ·have d:Hid (r=false):=hid (by rw[g.out];simp[k3]);clear k1 k2;go_wp2_with fail;refine(f.out _).mono ?_;rintro _ wx ⟨rfl,rfl⟩;go_wp2_with fail;have c:Blk ((((wx.setCell ⟨gb,0,none⟩ (.int .i64 0)).setCell ⟨gb,1,none⟩ (.bool false)).setCell ⟨gb,2,none⟩ (.int .u64 0)).setCell ⟨gb,3,none⟩ (.int .i64 0)) gb 74 #[.int .i64 0,.bool false,.int .u64 0,.int .i64 0]:=za2 HM.out.1;obtain⟨n,k,o,l⟩:=cells4 c;have a:Below w.heap.size w ((((wx.setCell ⟨gb,0,none⟩ (.int .i64 0)).setCell ⟨gb,1,none⟩ (.bool false)).setCell ⟨gb,2,none⟩ (.int .u64 0)).setCell ⟨gb,3,none⟩ (.int .i64 0)):=below4 HM.out.2.1 HM.out.2.2 _ _ _ _;refine bodyPost_ret (v:=.tuple #[.agg #[.int .i64 0,.bool false,.int .u64 0,.int .i64 0],.bool false]) (by rw[results_cell_tmp rfl];go_simp) rfl ?_;rw[d.out];exact⟨⟨_,_,_,_,rfl⟩,a⟩
       ·by_cases k4:1023<e
        ·have d:Hid (r=false):=hid (by rw[g.out];simp[k4]);clear k1 k2;go_wp2_with fail;refine(f.out _).mono ?_;rintro _ wx ⟨rfl,rfl⟩;go_wp2_with fail;have c:Blk ((((wx.setCell ⟨gb,0,none⟩ (.int .i64 0)).setCell ⟨gb,1,none⟩ (.bool false)).setCell ⟨gb,2,none⟩ (.int .u64 0)).setCell ⟨gb,3,none⟩ (.int .i64 0)) gb 74 #[.int .i64 0,.bool false,.int .u64 0,.int .i64 0]:=za2 HM.out.1;obtain⟨n,k,o,l⟩:=cells4 c;have a:Below w.heap.size w ((((wx.setCell ⟨gb,0,none⟩ (.int .i64 0)).setCell ⟨gb,1,none⟩ (.bool false)).setCell ⟨gb,2,none⟩ (.int .u64 0)).setCell ⟨gb,3,none⟩ (.int .i64 0)):=below4 HM.out.2.1 HM.out.2.2 _ _ _ _;refine bodyPost_ret (v:=.tuple #[.agg #[.int .i64 0,.bool false,.int .u64 0,.int .i64 0],.bool false]) (by rw[results_cell_tmp rfl];go_simp) rfl ?_;rw[d.out];exact⟨⟨_,_,_,_,rfl⟩,a⟩
        ·by_cases k5:1024<e+b
         ·have d:Hid (r=false):=hid (by rw[g.out];simp[k5]);clear k1 k2;go_wp2_with fail;refine(f.out _).mono ?_;rintro _ wx ⟨rfl,rfl⟩;go_wp2_with fail;refine(f.out _).mono ?_;rintro _ wx ⟨rfl,rfl⟩;go_wp2_with fail;have c:Blk ((((wx.setCell ⟨gb,0,none⟩ (.int .i64 0)).setCell ⟨gb,1,none⟩ (.bool false)).setCell ⟨gb,2,none⟩ (.int .u64 0)).setCell ⟨gb,3,none⟩ (.int .i64 0)) gb 74 #[.int .i64 0,.bool false,.int .u64 0,.int .i64 0]:=za2 HM.out.1;obtain⟨n,k,o,l⟩:=cells4 c;have a:Below w.heap.size w ((((wx.setCell ⟨gb,0,none⟩ (.int .i64 0)).setCell ⟨gb,1,none⟩ (.bool false)).setCell ⟨gb,2,none⟩ (.int .u64 0)).setCell ⟨gb,3,none⟩ (.int .i64 0)):=below4 HM.out.2.1 HM.out.2.2 _ _ _ _;refine bodyPost_ret (v:=.tuple #[.agg #[.int .i64 0,.bool false,.int .u64 0,.int .i64 0],.bool false]) (by rw[results_cell_tmp rfl];go_simp) rfl ?_;rw[d.out];exact⟨⟨_,_,_,_,rfl⟩,a⟩
         ·have d:Hid (r=true):=hid (by rw[g.out];simp[k1,k2,k3,k4,k5]);clear k1 k2;go_wp2_with fail;refine(f.out _).mono ?_;rintro _ wx ⟨rfl,rfl⟩;go_wp2_with fail;refine(f.out _).mono ?_;rintro _ wx ⟨rfl,rfl⟩;go_wp2_with fail;have c:Blk ((((wx.setCell ⟨gb,0,none⟩ (.int .i64 0)).setCell ⟨gb,1,none⟩ (.bool neg)).setCell ⟨gb,2,none⟩ (.int .u64 m)).setCell ⟨gb,3,none⟩ (.int .i64 e)) gb 74 #[.int .i64 0,.bool neg,.int .u64 m,.int .i64 e]:=za2 HM.out.1;obtain⟨n,k,o,l⟩:=cells4 c;have a:Below w.heap.size w ((((wx.setCell ⟨gb,0,none⟩ (.int .i64 0)).setCell ⟨gb,1,none⟩ (.bool neg)).setCell ⟨gb,2,none⟩ (.int .u64 m)).setCell ⟨gb,3,none⟩ (.int .i64 e)):=below4 HM.out.2.1 HM.out.2.2 _ _ _ _;refine bodyPost_ret (v:=.tuple #[.agg #[.int .i64 0,.bool neg,.int .u64 m,.int .i64 e],.bool true]) (by rw[results_cell_tmp rfl];go_simp) rfl ?_;rw[d.out];exact⟨⟨_,_,_,_,rfl⟩,a⟩
theorem zoe (s:Gr.Str):-1000000000000000000<(numb s).getD 0/\(numb s).getD 0<1000000000000000000:=by
 unfold numb;split
 ·rename_i h;obtain⟨_,a,_,_⟩:=zfy h.1;have hl:(intS s).length<=s.length:=by
   unfold intS;split
   ·simp
   ·omega
  have:=zt8 (intS s) a (by omega);simp only[Option.getD_some];split<;>omega
 ·simp
theorem zu5 (s t:Gr.Str) (hl:s.length<=1073741823) (htl:t.length<=s.length) (neg r:Bool) (gb:Nat) (w wx:World) (HM:Hid (Blk wx gb 74 #[.int .i64 0,.bool false,.int .u64 0,.int .i64 0]/\Below w.heap.size w wx/\w.heap.size<=gb)) (HR:Hid ((if t=[105,110,102]then true else if s=[110,97,110]then true else match t.dropWhile (fun c=>c != 112)with| []=>false|_::b=>match numb (Gr.fA t)with|some m=>(match numb b with|some e=>mokB m e|none=>false)|none=>false)=r)) {u1 u3 u6 u7 u8 u9 u10 u11 u12 u13 u14 u15 u16 u17 u18 u19 u20 u21 u22 u23 u24 u25 u26 u27 u28 u29 u30 u31 u32 u33 u34 u35 u36 u37 u38 u39 u40 u41 u42 u43 u44 u45 u46 u47 u48 u49 u50 u51 u52 u53 u54 u55 u56 u57 u58 u59 u60 u61 u62 u63 u64 u65 u66 u67 u68 u69 u70 u71 u72 u73 u74 u75 u76 u77 u78 u79 u80 u81 u82 u83 u84 u85 u86 u87 u88 u89 u90 u91 u92 u93 u94 u95 u96 u97 u98 u99 u100 u101 u102 u103 u104 u105 u106 u107 u108 u109 u110 u111 u112 u113 u114 u115 u116:Value}:
 Code.wp prog (tl 4 (f45.body.getD .skip)) (bodyPost prog f45 (OfF r w)) {tmps:=List.toArray (.string ⟨s.toArray⟩::u1::.pointer (some ⟨gb,0,none⟩)::u3::.bool neg::.string ⟨t.toArray⟩::u6::u7::u8::u9::u10::u11::u12::u13::u14::u15::u16::u17::u18::u19::u20::u21::u22::u23::u24::u25::u26::u27::u28::u29::u30::u31::u32::u33::u34::u35::u36::u37::u38::u39::u40::u41::u42::u43::u44::u45::u46::u47::u48::u49::u50::u51::u52::u53::u54::u55::u56::u57::u58::u59::u60::u61::u62::u63::u64::u65::u66::u67::u68::u69::u70::u71::u72::u73::u74::u75::u76::u77::u78::u79::u80::u81::u82::u83::u84::u85::u86::u87::u88::u89::u90::u91::u92::u93::u94::u95::u96::u97::u98::u99::u100::u101::u102::u103::u104::u105::u106::u107::u108::u109::u110::u111::u112::u113::u114::u115::u116::[]),defers:=[]} wx:=by
 generalize hc0:tl 4 (f45.body.getD .skip)=c0;simp only[tl,f45,Option.getD_some]at hc0;subst hc0;obtain⟨q0,q1,q2,q3⟩:=cells4 HM.out.1;have qf:∀j,wx.frozen? ⟨gb,j,none⟩=false:=HM.out.1.frozen;by_cases hinf:t=[105,110,102]
 ·have h1:(t==([105,110,102]:List UInt8))=true:=by rw[beq_iff_eq];exact hinf
  have F:Hid (r=true):=hid (by rw[<-HR.out,if_pos hinf]);clear hinf;go_wp2_with fail;have g:Blk ((((wx.setCell ⟨gb,0,none⟩ (.int .i64 1)).setCell ⟨gb,1,none⟩ (.bool neg)).setCell ⟨gb,2,none⟩ (.int .u64 0)).setCell ⟨gb,3,none⟩ (.int .i64 0)) gb 74 #[.int .i64 1,.bool neg,.int .u64 0,.int .i64 0]:=za2 HM.out.1;obtain⟨V,N,U,X⟩:=cells4 g;have i:Below w.heap.size w ((((wx.setCell ⟨gb,0,none⟩ (.int .i64 1)).setCell ⟨gb,1,none⟩ (.bool neg)).setCell ⟨gb,2,none⟩ (.int .u64 0)).setCell ⟨gb,3,none⟩ (.int .i64 0)):=below4 HM.out.2.1 HM.out.2.2 _ _ _ _;refine bodyPost_ret (v:=.tuple #[.agg #[.int .i64 1,.bool neg,.int .u64 0,.int .i64 0],.bool true]) (by rw[results_cell_tmp rfl];go_simp) rfl ?_;rw[F.out];exact⟨⟨_,_,_,_,rfl⟩,i⟩
 ·have h1:(t==([105,110,102]:List UInt8))=false:=by rw[beq_eq_false_iff_ne];exact hinf
  by_cases hnan:s=[110,97,110]
  ·have h2:(s==([110,97,110]:List UInt8))=true:=by rw[beq_iff_eq];exact hnan
   have F:Hid (r=true):=hid (by rw[<-HR.out,if_neg hinf,if_pos hnan]);clear hinf hnan;go_wp2_with fail;have g:Blk ((((wx.setCell ⟨gb,0,none⟩ (.int .i64 2)).setCell ⟨gb,1,none⟩ (.bool false)).setCell ⟨gb,2,none⟩ (.int .u64 0)).setCell ⟨gb,3,none⟩ (.int .i64 0)) gb 74 #[.int .i64 2,.bool false,.int .u64 0,.int .i64 0]:=za2 HM.out.1;obtain⟨V,N,U,X⟩:=cells4 g;have i:Below w.heap.size w ((((wx.setCell ⟨gb,0,none⟩ (.int .i64 2)).setCell ⟨gb,1,none⟩ (.bool false)).setCell ⟨gb,2,none⟩ (.int .u64 0)).setCell ⟨gb,3,none⟩ (.int .i64 0)):=below4 HM.out.2.1 HM.out.2.2 _ _ _ _;refine bodyPost_ret (v:=.tuple #[.agg #[.int .i64 2,.bool false,.int .u64 0,.int .i64 0],.bool true]) (by rw[results_cell_tmp rfl];go_simp) rfl ?_;rw[F.out];exact⟨⟨_,_,_,_,rfl⟩,i⟩
  ·have h2:(s==([110,97,110]:List UInt8))=false:=by rw[beq_eq_false_iff_ne];exact hnan
   have n:Hid ((match t.dropWhile (fun c=>c != 112)with| []=>false|_::b=>match numb (Gr.fA t)with|some m=>(match numb b with|some e=>mokB m e|none=>false)|none=>false)=r):=hid (by rw[<-HR.out,if_neg hinf,if_neg hnan]);clear hinf hnan HR;have d:Hid (t=Gr.fA t++t.dropWhile (fun c=>c != 112)):=hid (List.takeWhile_append_dropWhile (p:=fun c:UInt8=>c != 112) (l:=t)).symm;have z:Hid (∀k (h:k<t.length),k<(Gr.fA t).length->t[k]≠112):=hid (fun k h K=>by
    have e:t[k]=(Gr.fA t)[k]:=by
     have:=d.out;rw[List.getElem_of_eq this h,List.getElem_append_left K]
    rw[e];have D:=List.getElem_mem K;unfold Gr.fA at D;have:=zn0 D;have h4:¬((List.takeWhile (fun c:UInt8=>c != 112) t)[k]=112):=by simpa using this
    exact h4)
   obtain⟨A,T⟩:=ex (Gr.fA t)
   obtain⟨R,q⟩:=ex (t.dropWhile (fun c=>c != 112))
   have G:∀c b,R=c::b->c=112:=by
    intro c b e;have:=List.head?_dropWhile_not (fun c:UInt8=>c != 112) t;rw[q,e]at this;simpa using this
   have I:=hid G;rw[T,q]at n d;rw[T]at z;have hAl:A.length<=t.length:=by have:=congrArg List.length d.out;rw[List.length_append]at this;omega
   clear T q G;go_wp2_with fail;go_loop [6] (fun s6=>∃k:Nat,k<=A.length/\s6=.int .i64 (k:Int)) (fun s6=>t.length-(intOf s6).toNat)
   case atStart=>exact⟨0,Nat.zero_le _,rfl⟩
   case round=>
    obtain⟨k,K,rfl⟩:=hrel;by_cases hkA:k<A.length
    ·have f:k<t.length:=by omega
     have o:(k:Int)<(t.length:Int):=by omega
     have y:=z.out k f hkA;have b1:=zan t k f _ 112 112 rfl rfl y;have b2:=zaq t k f _ 112 112 rfl rfl y;clear y;go_wp2;go_round
     case rel=>exact⟨k+1,by omega,by go_num⟩
     case measure=>simp[intOf];omega
    ·obtain rfl:k=A.length:=by omega
     clear hkA K;cases R with
     |nil=>
      have Y:Hid (A.length=t.length):=hid (by have:=congrArg List.length d.out;rw[List.append_nil]at this;exact this.symm);have o:¬(A.length:Int)<(t.length:Int):=by have:=Y.out;omega
      have O:((A.length:Int)==(t.length:Int))=true:=by rw[beq_iff_eq,Y.out]
      have F:Hid (r=false):=hid (by rw[<-n.out]);go_wp2_with fail;have g:Blk ((((wx.setCell ⟨gb,0,none⟩ (.int .i64 0)).setCell ⟨gb,1,none⟩ (.bool false)).setCell ⟨gb,2,none⟩ (.int .u64 0)).setCell ⟨gb,3,none⟩ (.int .i64 0)) gb 74 #[.int .i64 0,.bool false,.int .u64 0,.int .i64 0]:=za2 HM.out.1;obtain⟨V,N,U,X⟩:=cells4 g;have i:Below w.heap.size w ((((wx.setCell ⟨gb,0,none⟩ (.int .i64 0)).setCell ⟨gb,1,none⟩ (.bool false)).setCell ⟨gb,2,none⟩ (.int .u64 0)).setCell ⟨gb,3,none⟩ (.int .i64 0)):=below4 HM.out.2.1 HM.out.2.2 _ _ _ _;refine bodyPost_ret (v:=.tuple #[.agg #[.int .i64 0,.bool false,.int .u64 0,.int .i64 0],.bool false]) (by rw[results_cell_tmp rfl];go_simp) rfl ?_;rw[F.out];exact⟨⟨_,_,_,_,rfl⟩,i⟩
     |cons c b=>
      obtain rfl:c=112:=I.out c b rfl;have J:Hid (A.length+1+b.length=t.length):=hid (by have:=congrArg List.length d.out;rw[List.length_append,List.length_cons]at this;omega);have f:A.length<t.length:=by have:=J.out;omega
      have o:(A.length:Int)<(t.length:Int):=by omega
      have O:((A.length:Int)==(t.length:Int))=false:=by rw[beq_eq_false_iff_ne];omega
      have Q:t[A.length]=112:=by rw[List.getElem_of_eq d.out f,List.getElem_append_right (Nat.le_refl _)];simp
      have b1:=zaw t A.length f _ 112 112 rfl rfl Q;have b2:=zap t A.length f _ 112 112 rfl rfl Q;have hbl:b.length<=1073741823:=by have:=J.out;omega
      have N:(⟨t.toArray⟩:ByteArray).extract 0 A.length=⟨A.toArray⟩:=by rw[zas,d.out];simp
      have U:(⟨t.toArray⟩:ByteArray).extract (A.length+1) t.length=⟨b.toArray⟩:=by rw[zas,List.take_of_length_le (by simp),d.out];simp
      have E:=hid (fun W=>zkk A (by omega) W);have C:=hid (fun W=>zkk b (by omega) W);have S:=zoe A;have P:=zoe b;have H:Hid (((numb A).isSome && (numb b).isSome && mokB ((numb A).getD 0) ((numb b).getD 0))=r):=hid (by
       have h:=n.out;simp only at h;rw[<-h];rcases numb A with _|m<;>rcases numb b with _|e<;>first|rfl|simp)
      unfold NPost at E C;obtain⟨m,D⟩:=ex ((numb A).getD 0)
      obtain⟨x,L⟩:=ex ((numb b).getD 0)
      obtain⟨Z,u⟩:=ex ((numb A).isSome)
      obtain⟨is,B⟩:=ex ((numb b).isSome)
      rw[D,u]at E;rw[L,B]at C;rw[D,L,u,B]at H;rw[D]at S;rw[L]at P;have hA1:A.length+1<=t.length:=by omega
      have hA1I:(A.length:Int)+1<=(t.length:Int):=by omega
      clear D L u B Q z I n d q0 q1 q2 q3 qf;go_upto_region 14 with fail;go_cut [7,8] (fun s7 s8 M=>s7=.int .i64 m/\s8=.bool Z/\M=wx)
      case first=>
       go_wp2_with fail;refine(E.out _).mono ?_;rintro _ w1 ⟨rfl,rfl⟩;go_wp2;go_meet;exact⟨rfl,rfl,rfl⟩
      case rest=>
      obtain⟨rfl,rfl,rfl⟩:=hcut;refine(‹∀(a:Act) (w_1:World),Code.wp prog _ _ a w_1->_›) _ _ ?_;go_upto_region 15 with fail;go_cut [9,10] (fun s9 s10 M=>s9=.int .i64 x/\s10=.bool is/\M=wc)
      case first=>
       go_wp2_with fail;refine(C.out _).mono ?_;rintro _ w1 ⟨rfl,rfl⟩;go_wp2;go_meet;exact⟨rfl,rfl,rfl⟩
      case rest=>
      obtain⟨rfl,rfl,rfl⟩:=hcut;refine(‹∀(a:Act) (w_1:World),Code.wp prog _ _ a w_1->_›) _ _ ?_;exact zw7 neg Z is r m x S.1 S.2 P.1 P.2 gb w _ HM H
theorem zr3 (s:Gr.Str) (hl:s.length<=1073741823) (w:World):Calls prog 45 #[.string ⟨s.toArray⟩] w (OfF (fltR s) w):=by
 obtain⟨r,n⟩:=ex (fltR s)
 rw[n];have h:Hid (∀t,Gr.fT s=t->(if t=[105,110,102]then true else if s=[110,97,110]then true else match t.dropWhile (fun c=>c != 112)with| []=>false|_::b=>match numb (Gr.fA t)with|some m=>(match numb b with|some e=>mokB m e|none=>false)|none=>false)=r):=hid (fun t g=>by rw[<-n,<-g];rfl);clear n;by_cases h0:0<s.length
 ·have o:(0:Int)<(s.length:Int):=by omega
  have l:s.head?=some s[0]:=by rw[List.head?_eq_getElem?,List.getElem?_eq_getElem h0]
  by_cases h45:s[0]=45
  ·have q:=zaw s 0 h0 _ 45 45 rfl rfl h45;have p:=zap s 0 h0 _ 45 45 rfl rfl h45;obtain⟨t,g⟩:=ex s.tail
   have j:=hid (h.out t (by unfold Gr.fT;rw[l,h45,if_pos rfl,g]));have htl:t.length<=s.length:=by rw[<-g];simp
   have e1:(⟨s.toArray⟩:ByteArray).extract 1 s.length=⟨t.toArray⟩:=by rw[zas,List.take_of_length_le (by simp),<-g,List.drop_one]
   have h1I:(1:Int)<=(s.length:Int):=by omega
   clear h l h45 g;go_enter func45,ntmps45;go_upto_region 1 with fail;obtain⟨f,d⟩:=ex (w.alloc (.cells #[.int .i64 0,.bool false,.int .u64 0,.int .i64 0] 74))
   have k:Hid (Blk f w.heap.size 74 #[.int .i64 0,.bool false,.int .u64 0,.int .i64 0]/\Below w.heap.size w f/\w.heap.size<=w.heap.size):=hid ⟨by rw[<-d];exact Blk.new _ _ _,by rw[<-d];exact(Below.refl _ _).alloc (Nat.le_refl _) _,Nat.le_refl _⟩;(try rw[d]);clear d;go_upto_if 20 with fail;go_cut [5] (fun s5 i=>s5=.string ⟨t.toArray⟩/\i=f)
   case first=>
    go_wp2;go_meet;exact⟨rfl,rfl⟩
   case rest=>
   obtain⟨rfl,rfl⟩:=hcut;refine(‹∀(a:Act) (w_1:World),Code.wp prog _ _ a w_1->_›) _ _ ?_;exact zu5 s t hl (by omega) true r _ w _ k j
  ·have q:=zan s 0 h0 _ 45 45 rfl rfl h45;have p:=zaq s 0 h0 _ 45 45 rfl rfl h45;have j:=hid (h.out s (by unfold Gr.fT;rw[l,if_neg (by intro e;injection e with e;exact h45 e)]));clear h l h45;go_enter func45,ntmps45;go_upto_region 1 with fail;obtain⟨f,d⟩:=ex (w.alloc (.cells #[.int .i64 0,.bool false,.int .u64 0,.int .i64 0] 74))
   have k:Hid (Blk f w.heap.size 74 #[.int .i64 0,.bool false,.int .u64 0,.int .i64 0]/\Below w.heap.size w f/\w.heap.size<=w.heap.size):=hid ⟨by rw[<-d];exact Blk.new _ _ _,by rw[<-d];exact(Below.refl _ _).alloc (Nat.le_refl _) _,Nat.le_refl _⟩;(try rw[d]);clear d;go_upto_if 20 with fail;go_cut [5] (fun s5 i=>s5=.string ⟨s.toArray⟩/\i=f)
   case first=>
    go_wp2;go_meet;exact⟨rfl,rfl⟩
   case rest=>
   obtain⟨rfl,rfl⟩:=hcut;refine(‹∀(a:Act) (w_1:World),Code.wp prog _ _ a w_1->_›) _ _ ?_;exact zu5 s s hl (by omega) false r _ w _ k j
 ·have o:¬(0:Int)<(s.length:Int):=by omega
  have j:=hid (h.out s (by rw[show s=[]from List.eq_nil_of_length_eq_zero (by omega)];rfl));clear h;go_enter func45,ntmps45;go_upto_region 1 with fail;obtain⟨f,d⟩:=ex (w.alloc (.cells #[.int .i64 0,.bool false,.int .u64 0,.int .i64 0] 74))
  have k:Hid (Blk f w.heap.size 74 #[.int .i64 0,.bool false,.int .u64 0,.int .i64 0]/\Below w.heap.size w f/\w.heap.size<=w.heap.size):=hid ⟨by rw[<-d];exact Blk.new _ _ _,by rw[<-d];exact(Below.refl _ _).alloc (Nat.le_refl _) _,Nat.le_refl _⟩;(try rw[d]);clear d;go_upto_if 20 with fail;go_cut [5] (fun s5 i=>s5=.string ⟨s.toArray⟩/\i=f)
  case first=>
   go_wp2;go_meet;exact⟨rfl,rfl⟩
  case rest=>
  obtain⟨rfl,rfl⟩:=hcut;refine(‹∀(a:Act) (w_1:World),Code.wp prog _ _ a w_1->_›) _ _ ?_;exact zu5 s s hl (by omega) false r _ w _ k j
end Go.Proofs.YtoigpackhninoaaGreatDoor

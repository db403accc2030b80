import Derived.Test.YtpgmfihonmoliaaGreatDoorZ10
namespace Go.Proofs.YtpgmfihonmoliaaGreatDoor
open Gr
open _root_.Go.Proofs.Tryz
open _root_.Go.Lib (hid)
set_option maxRecDepth 100000
set_option maxHeartbeats 16000000
open Go.RowKit
theorem zff (sh:Int) (y m d h mi c nanos:Nat) (zh zm z:Int) (hy:y<=9999) (hm:m<=99) (hd:d<=99) (hh:h<=99) (hmi:mi<=99) (hc:c<=99) (hn:nanos<=999999999) (hn0:sh=1->nanos=0) (w:World) (hT:UT w):
 Calls prog 93 #[.agg #[.int .i64 sh,.int .i64 (y:Int),.int .i64 (m:Int),.int .i64 (d:Int),.int .i64 (h:Int),.int .i64 (mi:Int),.int .i64 (c:Int),.int .i64 zh,.int .i64 zm,.int .i64 (nanos:Int),.int .u8 z]] w fun e w'=>e=.returned (.string ⟨((if sh=2 then[]else dateS y m d)++(if sh=3 then[84]else[])++(if sh=1 then[]else clkS h mi c nanos):Gr.Str).toArray⟩)/\Below w.heap.size w w':=by
 have HT:=hid hT;have aO:=hid hn0;clear hT hn0;have Z:=hid (fun(W:World) (hW:UT W)=>zcd y 4 (y:Int) 4 rfl rfl (by omega) (by omega) (by omega) W hW);have ak:=za6 4 y;have K:=hid (fun(W:World) (hW:UT W)=>zcd m 2 (m:Int) 2 rfl rfl (by omega) (by omega) (by omega) W hW);have ag:=za6 2 m;have X:=hid (fun(W:World) (hW:UT W)=>zcd d 2 (d:Int) 2 rfl rfl (by omega) (by omega) (by omega) W hW);have ao:=za6 2 d;have Y:=hid (fun(W:World) (hW:UT W)=>zcd h 2 (h:Int) 2 rfl rfl (by omega) (by omega) (by omega) W hW);have aj:=za6 2 h;have G:=hid (fun(W:World) (hW:UT W)=>zcd mi 2 (mi:Int) 2 rfl rfl (by omega) (by omega) (by omega) W hW);have ac:=za6 2 mi;have Q:=hid (fun(W:World) (hW:UT W)=>zcd c 2 (c:Int) 2 rfl rfl (by omega) (by omega) (by omega) W hW);have au:=za6 2 c;have al:=hid (fun(W:World) (hW:UT W)=>zcd nanos 9 (nanos:Int) 9 rfl rfl (by omega) (by omega) (by omega) W hW);have af:=za6 9 nanos;obtain⟨py,P⟩:=ex (Gr.pd 4 y)
 rw[P]at Z ak;obtain⟨pm,aa⟩:=ex (Gr.pd 2 m)
 rw[aa]at K ag;obtain⟨pd,T⟩:=ex (Gr.pd 2 d)
 rw[T]at X ao;obtain⟨ph,H⟩:=ex (Gr.pd 2 h)
 rw[H]at Y aj;obtain⟨pi,L⟩:=ex (Gr.pd 2 mi)
 rw[L]at G ac;obtain⟨pc,R⟩:=ex (Gr.pd 2 c)
 rw[R]at Q au;obtain⟨J,O⟩:=ex (Gr.pd 9 nanos)
 rw[O]at al af;have A:Hid (dateS y m d=py++[45]++pm++[45]++pd/\clkS h mi c nanos=ph++[58]++pi++[58]++pc++nanoS nanos/\nanoS nanos=(if nanos=0 then[]else 46::trimZ J)):=hid ⟨by simp only[dateS,P,aa,T];simp,by simp only[clkS,H,L,R];simp,by simp only[nanoS,O]⟩;clear P aa T H L R O;obtain⟨r,hr⟩:∃r:Gr.Str,((if sh=2 then[]else dateS y m d)++(if sh=3 then[84]else[])++(if sh=1 then[]else clkS h mi c nanos):Gr.Str)=r:=⟨_,rfl⟩
 have aK:=hid hr;rw[hr];clear hr;obtain⟨l,F⟩:=ex w.heap.size
 obtain⟨a,M⟩:∃a,a=w.alloc (.cells #[.int .i64 sh,.int .i64 (y:Int),.int .i64 (m:Int),.int .i64 (d:Int),.int .i64 (h:Int),.int .i64 (mi:Int),.int .i64 (c:Int),.int .i64 zh,.int .i64 zm,.int .i64 (nanos:Int),.int .u8 z] 96):=⟨_,rfl⟩
 have b:Hid (Blk a l 96 #[.int .i64 sh,.int .i64 (y:Int),.int .i64 (m:Int),.int .i64 (d:Int),.int .i64 (h:Int),.int .i64 (mi:Int),.int .i64 (c:Int),.int .i64 zh,.int .i64 zm,.int .i64 (nanos:Int),.int .u8 z]/\Below l w a/\UT a):=hid (by
  rw[M,<-F];exact⟨Blk.new _ _ _,(Below.refl _ _).alloc (Nat.le_refl _) _,UT.stays _ _ HT.out ((Below.refl _ _).alloc (Nat.le_refl _) _)⟩)
 have g:Hid (∀W:WB a.heap.size a,UT W.w):=hid (fun W=>UT.stays _ _ b.out.2.2 W.h);have aJ:=hid F;have ax:Hid (∀W:WB a.heap.size a,Calls prog 122 #[.int .i64 (y:Int),.int .i64 4] W.w fun e w'=>e=.returned (.string ⟨py.toArray⟩)/\Below a.heap.size a w'):=hid (fun W=>(Z.out W.w (g.out W)).mono (fun _ _ ⟨p,n⟩=>⟨p,W.h.trans (n.mono W.h.size)⟩));have ar:Hid (∀W:WB a.heap.size a,Calls prog 122 #[.int .i64 (m:Int),.int .i64 2] W.w fun e w'=>e=.returned (.string ⟨pm.toArray⟩)/\Below a.heap.size a w'):=hid (fun W=>(K.out W.w (g.out W)).mono (fun _ _ ⟨p,n⟩=>⟨p,W.h.trans (n.mono W.h.size)⟩));have ay:Hid (∀W:WB a.heap.size a,Calls prog 122 #[.int .i64 (d:Int),.int .i64 2] W.w fun e w'=>e=.returned (.string ⟨pd.toArray⟩)/\Below a.heap.size a w'):=hid (fun W=>(X.out W.w (g.out W)).mono (fun _ _ ⟨p,n⟩=>⟨p,W.h.trans (n.mono W.h.size)⟩));have an:Hid (∀W:WB a.heap.size a,Calls prog 122 #[.int .i64 (h:Int),.int .i64 2] W.w fun e w'=>e=.returned (.string ⟨ph.toArray⟩)/\Below a.heap.size a w'):=hid (fun W=>(Y.out W.w (g.out W)).mono (fun _ _ ⟨p,n⟩=>⟨p,W.h.trans (n.mono W.h.size)⟩));have ae:Hid (∀W:WB a.heap.size a,Calls prog 122 #[.int .i64 (mi:Int),.int .i64 2] W.w fun e w'=>e=.returned (.string ⟨pi.toArray⟩)/\Below a.heap.size a w'):=hid (fun W=>(G.out W.w (g.out W)).mono (fun _ _ ⟨p,n⟩=>⟨p,W.h.trans (n.mono W.h.size)⟩));have ab:Hid (∀W:WB a.heap.size a,Calls prog 122 #[.int .i64 (c:Int),.int .i64 2] W.w fun e w'=>e=.returned (.string ⟨pc.toArray⟩)/\Below a.heap.size a w'):=hid (fun W=>(Q.out W.w (g.out W)).mono (fun _ _ ⟨p,n⟩=>⟨p,W.h.trans (n.mono W.h.size)⟩));clear Z K X Y G Q;go_enter func93,ntmps93;go_upto_region 2 with fail;(try rw[<-M]);(try rw[F]);clear M F;have I:a.cell? ⟨l,0,none⟩=some (.int .i64 sh):=(b.out.1.below (Below.refl _ _) b.out.1.lt).cell 0;go_upto_if 6 with fail;go_cut [3] (fun s3 wx=>∃S:Gr.Str,s3=.string ⟨S.toArray⟩/\S.length<=60/\Hid (S=(if sh=2 then[]else dateS y m d)/\Below a.heap.size a wx))
 case first=>
  by_cases h2:sh=2
  .have aQ:(sh != 2)=false:=by simp[h2]
   have o:Hid (([]:Gr.Str)=if sh=2 then[]else dateS y m d):=hid (by rw[if_pos h2]);clear h2;go_wp2;go_meet;exact⟨[],rfl,by simp,hid ⟨o.out,Below.refl _ _⟩⟩
  .have aQ:(sh != 2)=true:=by simpa using h2
   have o:Hid ((if sh=2 then[]else dateS y m d)=dateS y m d):=hid (by rw[if_neg h2]);clear h2;go_upto_region 3 with fail;clear I;have p1:∀W:WB a.heap.size a,W.w.cell? ⟨l,1,none⟩=some (.int .i64 (y:Int)):=fun W=>(b.out.1.below W.h b.out.1.lt).cell 1
   have p2:∀W:WB a.heap.size a,W.w.cell? ⟨l,2,none⟩=some (.int .i64 (m:Int)):=fun W=>(b.out.1.below W.h b.out.1.lt).cell 2
   have p3:∀W:WB a.heap.size a,W.w.cell? ⟨l,3,none⟩=some (.int .i64 (d:Int)):=fun W=>(b.out.1.below W.h b.out.1.lt).cell 3
   obtain⟨s1,t⟩:∃x:Gr.Str,py++[45]=x:=⟨_,rfl⟩
   have Ls1:s1.length<=20:=by rw[<-t];simp<;>omega
   have aB:=fun W=>zad py [45] (by first|omega| (simp<;>omega)) W
   rw[t]at aB;have aD:=hid t;clear t;obtain⟨s2,v⟩:∃x:Gr.Str,s1++pm=x:=⟨_,rfl⟩
   have Ls2:s2.length<=30:=by rw[<-v];simp<;>omega
   have a0:=fun W=>zad s1 pm (by first|omega| (simp<;>omega)) W
   rw[v]at a0;have aP:=hid v;clear v;obtain⟨s3,u⟩:∃x:Gr.Str,s2++[45]=x:=⟨_,rfl⟩
   have Ls3:s3.length<=40:=by rw[<-u];simp<;>omega
   have aV:=fun W=>zad s2 [45] (by first|omega| (simp<;>omega)) W
   rw[u]at aV;have aW:=hid u;clear u;obtain⟨s4,D⟩:∃x:Gr.Str,s3++pd=x:=⟨_,rfl⟩
   have aH:s4.length<=60:=by rw[<-D];simp<;>omega
   have aY:=fun W=>zad s3 pd (by first|omega| (simp<;>omega)) W
   rw[D]at aY;have aE:=hid D;clear D;refine zac a.heap.size a (by kernel_rfl) (by kernel_rfl) (Below.refl _ _) ?_
   iterate 17 (try go_big_quiet_step ((first| (with_reducible refine Calls.grow (ax.out _))| (with_reducible refine Calls.grow (ar.out _))| (with_reducible refine Calls.grow (ay.out _)))))
   refine wpQuiet_nil ?_;rintro _ ⟨wz,rfl⟩;go_wp2;go_meet;exact⟨s4,rfl,aH,hid ⟨by rw[o.out,A.out.1,<-aE.out,<-aW.out,<-aP.out,<-aD.out],wz.h⟩⟩
 case rest=>
 obtain⟨S,rfl,hS,HS⟩:=hcut;clear I;have I:wc.cell? ⟨l,0,none⟩=some (.int .i64 sh):=(b.out.1.below HS.out.2 b.out.1.lt).cell 0;go_upto_region 4 with fail;obtain⟨wk,aM⟩:∃wk,wk=wc:=⟨_,rfl⟩
 subst aM;go_upto_if 25 with fail;go_cut [3] (fun s3 wx=>∃U:Gr.Str,s3=.string ⟨U.toArray⟩/\U.length<=61/\Hid (U=S++(if sh=3 then[84]else[])/\wx=wk))
 case first=>
  by_cases h3:sh=3
  .have aI:(sh==3)=true:=by simp[h3]
   have o:Hid ((if sh=3 then([84]:Gr.Str)else[])=[84]):=hid (by rw[if_pos h3]);clear h3;obtain⟨s5,q⟩:∃x:Gr.Str,S++[84]=x:=⟨_,rfl⟩
   have a5:s5.length<=61:=by rw[<-q];simp<;>omega
   have a4:=fun W=>zad S [84] (by first|omega| (simp<;>omega)) W
   rw[q]at a4;have aF:=hid q;clear q;go_wp2;go_meet;exact⟨s5,rfl,a5,hid ⟨by rw[o.out,aF.out],rfl⟩⟩
  .have aI:(sh==3)=false:=by simpa using h3
   have o:Hid ((if sh=3 then([84]:Gr.Str)else[])=[]):=hid (by rw[if_neg h3]);clear h3;go_wp2;go_meet;exact⟨S,rfl,by omega,hid ⟨by rw[o.out];simp,rfl⟩⟩
 case rest=>
 obtain⟨U,rfl,hU,HU⟩:=hcut;obtain⟨wm,a6⟩:∃wm,wm=wc:=⟨_,rfl⟩
 subst a6;have N:Hid (Below a.heap.size a wm):=hid (by rw[HU.out.2];exact HS.out.2);clear I;have I:wm.cell? ⟨l,0,none⟩=some (.int .i64 sh):=(b.out.1.below N.out b.out.1.lt).cell 0;go_upto_region 6 with fail;go_upto_if 30 with fail;go_cut [3] (fun s3 wx=>∃V:Gr.Str,s3=.string ⟨V.toArray⟩/\V.length<=160/\Hid (U++(if sh=1 then[]else clkS h mi c nanos)=V++nanoS nanos/\Below a.heap.size a wx))
 case first=>
  by_cases h1:sh=1
  .have a2:(sh != 1)=false:=by simp[h1]
   have o:Hid (U++(if sh=1 then[]else clkS h mi c nanos)=U++nanoS nanos):=hid (by rw[if_pos h1,aO.out h1];rfl);clear h1;go_wp2;go_meet;exact⟨U,rfl,by omega,hid ⟨o.out,N.out⟩⟩
  .have a2:(sh != 1)=true:=by simpa using h1
   have o:Hid ((if sh=1 then[]else clkS h mi c nanos)=clkS h mi c nanos):=hid (by rw[if_neg h1]);clear h1;go_upto_region 7 with fail;clear I;have p4:∀W:WB a.heap.size a,W.w.cell? ⟨l,4,none⟩=some (.int .i64 (h:Int)):=fun W=>(b.out.1.below W.h b.out.1.lt).cell 4
   have p5:∀W:WB a.heap.size a,W.w.cell? ⟨l,5,none⟩=some (.int .i64 (mi:Int)):=fun W=>(b.out.1.below W.h b.out.1.lt).cell 5
   have p6:∀W:WB a.heap.size a,W.w.cell? ⟨l,6,none⟩=some (.int .i64 (c:Int)):=fun W=>(b.out.1.below W.h b.out.1.lt).cell 6
   obtain⟨s6,B⟩:∃x:Gr.Str,ph++[58]=x:=⟨_,rfl⟩
   have Ls6:s6.length<=20:=by rw[<-B];simp<;>omega
   have a7:=fun W=>zad ph [58] (by first|omega| (simp<;>omega)) W
   rw[B]at a7;have aC:=hid B;clear B;obtain⟨s7,s⟩:∃x:Gr.Str,s6++pi=x:=⟨_,rfl⟩
   have Ls7:s7.length<=30:=by rw[<-s];simp<;>omega
   have aU:=fun W=>zad s6 pi (by first|omega| (simp<;>omega)) W
   rw[s]at aU;have aN:=hid s;clear s;obtain⟨s8,C⟩:∃x:Gr.Str,s7++[58]=x:=⟨_,rfl⟩
   have Ls8:s8.length<=40:=by rw[<-C];simp<;>omega
   have aT:=fun W=>zad s7 [58] (by first|omega| (simp<;>omega)) W
   rw[C]at aT;have a3:=hid C;clear C;obtain⟨s9,E⟩:∃x:Gr.Str,s8++pc=x:=⟨_,rfl⟩
   have Ls9:s9.length<=60:=by rw[<-E];simp<;>omega
   have aR:=fun W=>zad s8 pc (by first|omega| (simp<;>omega)) W
   rw[E]at aR;have aX:=hid E;clear E;obtain⟨s10,i⟩:∃x:Gr.Str,U++s9=x:=⟨_,rfl⟩
   have aA:s10.length<=160:=by rw[<-i];simp<;>omega
   have ah:=fun W=>zad U s9 (by first|omega| (simp<;>omega)) W
   rw[i]at ah;have ad:=hid i;clear i;refine zac a.heap.size a (by kernel_rfl) (by kernel_rfl) N.out ?_
   iterate 19 (try go_big_quiet_step ((first| (with_reducible refine Calls.grow (an.out _))| (with_reducible refine Calls.grow (ae.out _))| (with_reducible refine Calls.grow (ab.out _)))))
   refine wpQuiet_nil ?_;rintro _ ⟨wy,rfl⟩;go_wp2;go_meet;exact⟨s10,rfl,aA,hid ⟨by rw[o.out,A.out.2.1,<-ad.out,<-aX.out,<-a3.out,<-aN.out,<-aC.out];simp,wy.h⟩⟩
 case rest=>
 obtain⟨V,rfl,hV,HV⟩:=hcut;clear I;have q9:wc.cell? ⟨l,9,none⟩=some (.int .i64 (nanos:Int)):=(b.out.1.below HV.out.2 b.out.1.lt).cell 9;have HZ:Hid (∀W,Below a.heap.size a W->Below w.heap.size w W):=hid (fun W hW=>by rw[aJ.out];exact b.out.2.1.trans (hW.mono (Nat.le_of_lt b.out.1.lt)));have ai:Hid (r=V++nanoS nanos):=hid (by rw[<-aK.out,<-HV.out.1,HU.out.1,HS.out.1]);by_cases hz:0<nanos
 .have aG:(0:Int)<(nanos:Int):=by omega
  have ap:Hid (∀W,Calls prog 123 #[.string ⟨J.toArray⟩,.string ⟨#[48]⟩] W fun e w'=>e=.returned (.string ⟨(trimZ J).toArray⟩)/\w'=W):=hid (fun W=>strings_TrimRight_one ⟨J.toArray⟩ 48 (by decide) W (by show J.toArray.size<=_;simp;omega));have a1:(trimZ J).length<=9:=by unfold trimZ;rw[List.length_reverse];exact Nat.le_trans (List.dropWhile_sublist _).length_le (by rw[List.length_reverse];omega)
  obtain⟨f,hf⟩:=ex (trimZ J)
  have aS:=hid hf;rw[hf]at ap a1;clear hf;obtain⟨s11,j⟩:∃x:Gr.Str,[46]++f=x:=⟨_,rfl⟩
  have Ls11:s11.length<=20:=by rw[<-j];simp<;>omega
  have av:=fun W=>zad [46] f (by first|omega| (simp<;>omega)) W
  rw[j]at av;have am:=hid j;clear j;obtain⟨s12,k⟩:∃x:Gr.Str,V++s11=x:=⟨_,rfl⟩
  have Ls12:s12.length<=200:=by rw[<-k];simp<;>omega
  have az:=fun W=>zad V s11 (by first|omega| (simp<;>omega)) W
  rw[k]at az;have aw:=hid k;clear k;have HE:Hid (r=s12):=hid (by rw[ai.out,A.out.2.2,if_neg (by omega),aS.out,<-aw.out,<-am.out];simp);have aL:=hid (al.out wc (g.out ⟨wc,HV.out.2⟩));clear hz;go_wp2_with fail;refine aL.out.mono ?_;rintro e w5 ⟨rfl,aq⟩;have aZ:Hid (Below a.heap.size a w5):=hid (HV.out.2.trans (aq.mono HV.out.2.size));clear aq q9;go_wp2_with fail;refine(ap.out _).mono ?_;rintro e w6 ⟨rfl,rfl⟩;go_wp2;go_ret;exact⟨by rw[HE.out]<;>rfl,HZ.out _ aZ.out⟩
 .have aG:¬(0:Int)<(nanos:Int):=by omega
  have HE:Hid (r=V):=hid (by rw[ai.out,A.out.2.2,if_pos (by omega)];simp);go_wp2;go_ret;exact⟨by rw[HE.out]<;>rfl,HZ.out _ HV.out.2⟩
theorem zwc (y m d h mi c nanos:Nat) (zh zm z:Int) (hy:y<=9999) (hm:m<=99) (hd:d<=99) (hh:h<=99) (hmi:mi<=99) (hc:c<=99) (hn:nanos<=999999999) (hn0:nanos=0) (w:World) (hT:UT w):
 Calls prog 93 #[.agg #[.int .i64 1,.int .i64 (y:Int),.int .i64 (m:Int),.int .i64 (d:Int),.int .i64 (h:Int),.int .i64 (mi:Int),.int .i64 (c:Int),.int .i64 zh,.int .i64 zm,.int .i64 (nanos:Int),.int .u8 z]] w fun e w'=>e=.returned (.string ⟨((dateS y m d):Gr.Str).toArray⟩)/\Below w.heap.size w w':=by
 simpa using zff 1 y m d h mi c nanos zh zm z hy hm hd hh hmi hc hn (fun _=>hn0) w hT
theorem zwd (y m d h mi c nanos:Nat) (zh zm z:Int) (hy:y<=9999) (hm:m<=99) (hd:d<=99) (hh:h<=99) (hmi:mi<=99) (hc:c<=99) (hn:nanos<=999999999) (w:World) (hT:UT w):
 Calls prog 93 #[.agg #[.int .i64 2,.int .i64 (y:Int),.int .i64 (m:Int),.int .i64 (d:Int),.int .i64 (h:Int),.int .i64 (mi:Int),.int .i64 (c:Int),.int .i64 zh,.int .i64 zm,.int .i64 (nanos:Int),.int .u8 z]] w fun e w'=>e=.returned (.string ⟨((clkS h mi c nanos):Gr.Str).toArray⟩)/\Below w.heap.size w w':=by
 simpa using zff 2 y m d h mi c nanos zh zm z hy hm hd hh hmi hc hn (by intro h;omega) w hT
theorem zqd (y m d h mi c nanos:Nat) (zh zm z:Int) (hy:y<=9999) (hm:m<=99) (hd:d<=99) (hh:h<=99) (hmi:mi<=99) (hc:c<=99) (hn:nanos<=999999999) (w:World) (hT:UT w):
 Calls prog 93 #[.agg #[.int .i64 3,.int .i64 (y:Int),.int .i64 (m:Int),.int .i64 (d:Int),.int .i64 (h:Int),.int .i64 (mi:Int),.int .i64 (c:Int),.int .i64 zh,.int .i64 zm,.int .i64 (nanos:Int),.int .u8 z]] w fun e w'=>e=.returned (.string ⟨((dateS y m d++[84]++clkS h mi c nanos):Gr.Str).toArray⟩)/\Below w.heap.size w w':=by
 simpa using zff 3 y m d h mi c nanos zh zm z hy hm hd hh hmi hc hn (by intro h;omega) w hT
theorem zqk {x:Gr.Mo} (_h:MoOk x) (hr:okR x=true) (hd:x.date=true):Cal.vld x.y x.m x.d=true/\-63000000000<=secs x/\secs x<=260000000000/\-1000000<=offS x/\offS x<=1000000:=by
 unfold okR at hr;rw[hd]at hr;simp only[Bool.not_true,Bool.false_or,Bool.and_eq_true,decide_eq_true_eq]at hr;obtain⟨⟨⟨⟨⟨a,h1⟩,h2⟩,h3⟩,h4⟩,h5⟩:=hr;have hb:=Cal.zza a;have b:-1000000<=offS x/\offS x<=1000000:=by unfold offS;split<;>omega
 refine⟨a,?_,?_,b⟩
 .unfold secs;omega
 .unfold secs;omega
def RIPost (r:Gr.Str×Nat) (w:World) (e:Ending) (w':World):Prop:=e=.returned (.tuple #[.string ⟨r.1.toArray⟩,.int .i64 (r.2:Nat)])/\Below w.heap.size w w'
theorem zyb {n _nanos:Int} {y m d:Int} (hv:Cal.vld y m d=true) (hn:Cal.num y m d=(n+62167219200) /86400-719528):∃a b c:Nat,y=a/\m=b/\d=c/\a<=999999999/\b<=999999999/\c<=999999999/\dateOf (n /86400)=(a,b,c):=by
 have h:=Cal.zpm hv;have hd:=Cal.zxy y m;refine⟨y.toNat,m.toNat,d.toNat,by omega,by omega,by omega,by omega,by omega,by omega,?_⟩;apply zii
 .rw[show((y.toNat:Nat):Int)=y from by omega,show((m.toNat:Nat):Int)=m from by omega,show((d.toNat:Nat):Int)=d from by omega];exact hv
 .rw[show((y.toNat:Nat):Int)=y from by omega,show((m.toNat:Nat):Int)=m from by omega,show((d.toNat:Nat):Int)=d from by omega,hn];omega
theorem ofshow (n:Int) (nanos:Nat) (_h0:-62167219200<=n) (_h1:n<=253402300799) (hn:nanos<=999999999) (w:World) (e:Ending) (w':World) (h:OfPost (n+62167219200) (nanos:Int) w e w'):
 ∃a b c p q r:Nat,e=.returned (.agg #[.bool true,.bool true,.bool true,.int .i64 (a:Int),.int .i64 (b:Int),.int .i64 (c:Int),.int .i64 (p:Int),.int .i64 (q:Int),.int .i64 (r:Int),.int .i64 (nanos:Int),.int .i64 0,.bool false])/\Below w.heap.size w w'/\
 (∀W,Calls prog 132 #[.agg #[.bool true,.bool true,.bool true,.int .i64 (a:Int),.int .i64 (b:Int),.int .i64 (c:Int),.int .i64 (p:Int),.int .i64 (q:Int),.int .i64 (r:Int),.int .i64 (nanos:Int),.int .i64 0,.bool false]] W fun e W'=>e=.returned (.string ⟨(momS (n /86400) (n%86400).toNat nanos).toArray⟩)/\Below W.heap.size W W'):=by
 obtain⟨y,m,d,k,f,l,s⟩:=h;obtain⟨a,b,c,rfl,rfl,rfl,j,g,o,i⟩:=zyb (_nanos:=nanos) k f;refine⟨a,b,c,(n%86400).toNat /3600,(n%86400).toNat /60%60,(n%86400).toNat%60,?_,s,fun W=>?_⟩
 .rw[l,show(n+62167219200)%86400 /3600=(((n%86400).toNat /3600:Nat):Int)from by omega,show(n+62167219200)%86400 /60%60=(((n%86400).toNat /60%60:Nat):Int)from by omega,show(n+62167219200)%86400%60=(((n%86400).toNat%60:Nat):Int)from by omega]
 .have:=zqh a b c ((n%86400).toNat /3600) ((n%86400).toNat /60%60) ((n%86400).toNat%60) nanos 0 false j g o (by omega) (by omega) (by omega) hn W;rw[show momS (n /86400) (n%86400).toNat nanos=dateS a b c++[84]++clkS ((n%86400).toNat /3600) ((n%86400).toNat /60%60) ((n%86400).toNat%60) nanos++[90]from by unfold momS;rw[i];simp];exact this
theorem zec (s:Gr.Str) (hl:s.length<=1073741823) (w:World):
 Calls prog 129 #[.string ⟨s.toArray⟩] w (RIPost (insP s) w):=by
 have N:=hid (fun W=>zdc s hl W);have au:Hid (insP s=insP s):=hid rfl;obtain⟨r,P⟩:=ex (insP s)
 have HR:=hid P;rw[P];clear P au;have S:Hid (insP s=match Gr.rd s with|none=>([],3)|some x=>if x.z=0 then([],3)else if okR x=false then([],13)else if secs x< -62167219200\/253402300800<=secs x then([],13)else(momS (secs x /86400) (secs x%86400).toNat x.nanos,0)):=hid rfl;cases hrd:Gr.rd s with
 |none=>
  have Q:Hid (r=([],3)):=hid (by rw[<-HR.out,S.out,hrd]);have G:=hid hrd;clear hrd;go_enter func129,ntmps129;go_wp2_with fail;refine(N.out _).mono ?_;rintro e B ⟨⟨t0,t1,t2,t3,t4,t5,t6,t7,t8,t9,t10,t11⟩,ok,rfl,j,l⟩;rw[G.out]at l;simp only at l;subst l;have g:=hid j;clear j;simp only[RT.v];go_wp2;go_ret2;rw[Q.out];exact⟨rfl,g.out.alloc g.out.size _⟩
 |some x=>
  have o:=zqi hrd;have HOK:=hid o;have G:=hid hrd;have R:=zqj o;have HZ:Hid (decide (x.z≠0)=!decide (x.z=0)):=hid (by simp);by_cases hz:x.z=0
  .have Q:Hid (r=([],3)):=hid (by rw[<-HR.out,S.out,hrd];simp only;rw[if_pos hz]);have O:decide (x.z≠0)=false:=by simp[hz]
   have K:=hid O;clear hrd o R hz O;go_enter func129,ntmps129;go_wp2_with fail;refine(N.out _).mono ?_;rintro e B ⟨t,ok,rfl,j,l⟩;rw[G.out]at l;simp only at l;obtain⟨rfl,rfl⟩:=l;have g:=hid j;clear j;simp only[RT.v,toRT,K.out];go_wp2;go_ret2;rw[Q.out];exact⟨rfl,g.out.alloc g.out.size _⟩
  .have O:decide (x.z≠0)=true:=by simp[hz]
   have T:x.date=true/\x.time=true:=by
    rcases o.sh with h|⟨_,_,h⟩|⟨_,_,h⟩
    .exact h
    .exact absurd h hz
    .exact absurd h hz
   have K:=hid O;have D:=hid T;obtain⟨I,Z⟩:=ex (decide (23<x.zh) || decide (59<x.zm))
   obtain⟨of,U⟩:=ex (offS x)
   have E:=hid (And.intro Z U);rw[T.1,Z]at R;have J:Hid (∀W,Calls prog 131 #[.agg #[.bool true,.bool true,.bool true,.int .i64 (x.y:Int),.int .i64 (x.m:Int),.int .i64 (x.d:Int),.int .i64 (x.h:Int),.int .i64 (x.mi:Int),.int .i64 (x.c:Int),.int .i64 (x.nanos:Int),.int .i64 of,.bool I]] W fun e w'=>e=.returned (.bool (okR x))/\Below W.heap.size W w'):=hid (fun W=>by
    have:=zeb true true true (x.y:Int) (x.m:Int) (x.d:Int) (x.h:Int) (x.mi:Int) (x.c:Int) (x.nanos:Int) of I W;rwa[R]at this)
   by_cases P:okR x=false
   .have Q:Hid (r=([],13)):=hid (by rw[<-HR.out,S.out,hrd];simp only;rw[if_neg hz,if_pos P]);rw[P]at J;clear hrd o R hz O T Z U P;go_enter func129,ntmps129;go_wp2_with fail;refine(N.out _).mono ?_;rintro e B ⟨t,ok,rfl,j,l⟩;rw[G.out]at l;simp only at l;obtain⟨rfl,rfl⟩:=l;have g:=hid j;clear j;simp only[RT.v,toRT,K.out,D.out.1,D.out.2,E.out.1,E.out.2];go_wp2_with fail;refine(J.out _).mono ?_;rintro e L ⟨rfl,i⟩;have f:Hid (Below w.heap.size w L):=hid ((g.out.alloc g.out.size _).trans (i.mono (by have:=g.out.size;simp;omega)));clear i;go_wp2;go_ret2;rw[Q.out];exact⟨rfl,f.out⟩
   .rw[Bool.not_eq_false]at P;rw[P]at J;obtain⟨hv,al,an,ad,ac⟩:=zqk o P T.1;have am:=Cal.zpm hv;have ar:=Cal.zxy x.y x.m;rw[U]at ad ac;have ak:86400*Cal.num x.y x.m x.d+3600*(x.h:Int)+60*(x.mi:Int)+(x.c:Int)-of=secs x:=by unfold secs;rw[U];omega
    have aa:Hid (∀W,Calls prog 160 #[.agg #[.bool true,.bool true,.bool true,.int .i64 (x.y:Int),.int .i64 (x.m:Int),.int .i64 (x.d:Int),.int .i64 (x.h:Int),.int .i64 (x.mi:Int),.int .i64 (x.c:Int),.int .i64 (x.nanos:Int),.int .i64 of,.bool I]] W fun e w'=>e=.returned (.int .i64 (secs x))/\Below W.heap.size W w'):=hid (fun W=>by
     have h1:=o.h;have h2:=o.mi;have h3:=o.c;have:=ziu true true true (x.y:Int) (x.m:Int) (x.d:Int) (x.h:Int) (x.mi:Int) (x.c:Int) (x.nanos:Int) of I (by omega) (by omega) (by omega) (by omega) (by omega) (by omega) (by omega) (by omega) (by omega) (by omega) (by omega) (by omega) ad ac W;rwa[ak]at this)
    have aq:=o.nanos;obtain⟨n,hn⟩:=ex (secs x)
    rw[hn]at aa al an;have HN:=hid hn;have A:Hid (r=if n< -62167219200\/253402300800<=n then([],13)else(momS (n /86400) (n%86400).toNat x.nanos,0)):=hid (by rw[<-HR.out,S.out,hrd];simp only;rw[if_neg hz,if_neg (by rw[P];decide),hn]);have ag:Hid (∀W,-62167219200<=n->n<=253402300799->Calls prog 161 #[.int .i64 n,.int .i64 (x.nanos:Int)] W (OfPost (n+62167219200) (x.nanos:Int) W)):=hid (fun W a b=>zwe n (n+62167219200) (x.nanos:Int) (by omega) (by omega) (by omega) W);clear hrd o R hz O T Z U P hv am ar ad ac ak hn S;by_cases h1:n< -62167219200
    .have Q:Hid (r=([],13)):=hid (by rw[A.out,if_pos (.inl h1)]);clear A;go_enter func129,ntmps129;go_wp2_with fail;refine(N.out _).mono ?_;rintro e B ⟨t,ok,rfl,j,l⟩;rw[G.out]at l;simp only at l;obtain⟨rfl,rfl⟩:=l;have g:=hid j;clear j;simp only[RT.v,toRT,K.out,D.out.1,D.out.2,E.out.1,E.out.2];go_wp2_with fail;refine(J.out _).mono ?_;rintro e L ⟨rfl,i⟩;have f:Hid (Blk L B.heap.size 147 (T12 true true true (x.y:Int) (x.m:Int) (x.d:Int) (x.h:Int) (x.mi:Int) (x.c:Int) (x.nanos:Int) of I)/\Below w.heap.size w L/\B.heap.size<L.heap.size):=hid (by
      have F:=Blk.new B 147 (T12 true true true (x.y:Int) (x.m:Int) (x.d:Int) (x.h:Int) (x.mi:Int) (x.c:Int) (x.nanos:Int) of I);exact⟨F.below i F.lt,(g.out.alloc g.out.size _).trans (i.mono (by have:=g.out.size;simp;omega)),by have:=i.size;simp at this;omega⟩)
     clear i;obtain⟨g4,C⟩:=ex B.heap.size
     rw[C]at f ⊢;clear C;obtain⟨q0,q1,q2,q3,q4,q5,q6,q7,q8,q9,Y,V⟩:=zah f.out.1;go_wp2_with fail;refine(aa.out _).mono ?_;rintro e w3 ⟨rfl,k⟩;have H:Hid (Blk w3 g4 147 (T12 true true true (x.y:Int) (x.m:Int) (x.d:Int) (x.h:Int) (x.mi:Int) (x.c:Int) (x.nanos:Int) of I)/\Below w.heap.size w w3):=hid ⟨f.out.1.below k f.out.1.lt,f.out.2.1.trans (k.mono f.out.2.1.size)⟩;clear k q0 q1 q2 q3 q4 q5 q6 q7 q8 q9 Y V;go_wp2;go_ret2;rw[Q.out];exact⟨rfl,H.out.2⟩
    .by_cases h2:253402300799<n
     .have Q:Hid (r=([],13)):=hid (by rw[A.out,if_pos (.inr (by omega))]);clear A;go_enter func129,ntmps129;go_wp2_with fail;refine(N.out _).mono ?_;rintro e B ⟨t,ok,rfl,j,l⟩;rw[G.out]at l;simp only at l;obtain⟨rfl,rfl⟩:=l;have g:=hid j;clear j;simp only[RT.v,toRT,K.out,D.out.1,D.out.2,E.out.1,E.out.2];go_wp2_with fail;refine(J.out _).mono ?_;rintro e L ⟨rfl,i⟩;have f:Hid (Blk L B.heap.size 147 (T12 true true true (x.y:Int) (x.m:Int) (x.d:Int) (x.h:Int) (x.mi:Int) (x.c:Int) (x.nanos:Int) of I)/\Below w.heap.size w L/\B.heap.size<L.heap.size):=hid (by
       have F:=Blk.new B 147 (T12 true true true (x.y:Int) (x.m:Int) (x.d:Int) (x.h:Int) (x.mi:Int) (x.c:Int) (x.nanos:Int) of I);exact⟨F.below i F.lt,(g.out.alloc g.out.size _).trans (i.mono (by have:=g.out.size;simp;omega)),by have:=i.size;simp at this;omega⟩)
      clear i;obtain⟨g4,C⟩:=ex B.heap.size
      rw[C]at f ⊢;clear C;obtain⟨q0,q1,q2,q3,q4,q5,q6,q7,q8,q9,Y,V⟩:=zah f.out.1;go_wp2_with fail;refine(aa.out _).mono ?_;rintro e w3 ⟨rfl,k⟩;have H:Hid (Blk w3 g4 147 (T12 true true true (x.y:Int) (x.m:Int) (x.d:Int) (x.h:Int) (x.mi:Int) (x.c:Int) (x.nanos:Int) of I)/\Below w.heap.size w w3):=hid ⟨f.out.1.below k f.out.1.lt,f.out.2.1.trans (k.mono f.out.2.1.size)⟩;clear k q0 q1 q2 q3 q4 q5 q6 q7 q8 q9 Y V;go_wp2;go_ret2;rw[Q.out];exact⟨rfl,H.out.2⟩
     .have Q:Hid (r=(momS (n /86400) (n%86400).toNat x.nanos,0)):=hid (by rw[A.out,if_neg (by omega)]);have af:=hid (fun W=>ag.out W (by omega) (by omega));have ai:=hid (fun W e W' h=>ofshow n x.nanos (by omega) (by omega) aq W e W' h);obtain⟨M,hM⟩:=ex (momS (n /86400) (n%86400).toNat x.nanos)
      rw[hM]at Q ai;clear hM;clear A ag;go_enter func129,ntmps129;go_wp2_with fail;refine(N.out _).mono ?_;rintro e B ⟨t,ok,rfl,j,l⟩;rw[G.out]at l;simp only at l;obtain⟨rfl,rfl⟩:=l;have g:=hid j;clear j;simp only[RT.v,toRT,K.out,D.out.1,D.out.2,E.out.1,E.out.2];go_wp2_with fail;refine(J.out _).mono ?_;rintro e L ⟨rfl,i⟩;have f:Hid (Blk L B.heap.size 147 (T12 true true true (x.y:Int) (x.m:Int) (x.d:Int) (x.h:Int) (x.mi:Int) (x.c:Int) (x.nanos:Int) of I)/\Below w.heap.size w L/\B.heap.size<L.heap.size):=hid (by
       have F:=Blk.new B 147 (T12 true true true (x.y:Int) (x.m:Int) (x.d:Int) (x.h:Int) (x.mi:Int) (x.c:Int) (x.nanos:Int) of I);exact⟨F.below i F.lt,(g.out.alloc g.out.size _).trans (i.mono (by have:=g.out.size;simp;omega)),by have:=i.size;simp at this;omega⟩)
      clear i;obtain⟨g4,C⟩:=ex B.heap.size
      rw[C]at f ⊢;clear C;obtain⟨q0,q1,q2,q3,q4,q5,q6,q7,q8,q9,Y,V⟩:=zah f.out.1;go_wp2_with fail;refine(aa.out _).mono ?_;rintro e w3 ⟨rfl,k⟩;have H:Hid (Blk w3 g4 147 (T12 true true true (x.y:Int) (x.m:Int) (x.d:Int) (x.h:Int) (x.mi:Int) (x.c:Int) (x.nanos:Int) of I)/\Below w.heap.size w w3):=hid ⟨f.out.1.below k f.out.1.lt,f.out.2.1.trans (k.mono f.out.2.1.size)⟩;clear k q0 q1 q2 q3 q4 q5 q6 q7 q8 q9 Y V;have q9:w3.cell? ⟨g4,9,none⟩=some (.int .i64 (x.nanos:Int)):=H.out.1.cell 9;go_wp2_with fail;refine(af.out _).mono ?_;intro e w4 ab;obtain⟨a,b,c,p,q,u,rfl,aj,X⟩:=ai.out _ _ _ ab;have ah:Hid (Below w.heap.size w w4):=hid (H.out.2.trans (aj.mono H.out.2.size));have ao:=hid X;clear ab aj X q9;go_wp2_with fail;refine(ao.out _).mono ?_;rintro e w5 ⟨rfl,ae⟩;have ap:Hid (Below w.heap.size w w5):=hid (ah.out.trans (ae.mono ah.out.size));clear ae;go_wp2;go_ret2;rw[Q.out];exact⟨rfl,ap.out⟩
theorem zwg {x:Gr.Mo} (h:MoOk x) (_hz:x.z=0) (of:Int) (lt:Bool) (W:World):
 Calls prog 132 #[.agg #[.bool x.date,.bool x.time,.bool false,.int .i64 (x.y:Int),.int .i64 (x.m:Int),.int .i64 (x.d:Int),.int .i64 (x.h:Int),.int .i64 (x.mi:Int),.int .i64 (x.c:Int),.int .i64 (x.nanos:Int),.int .i64 of,.bool lt]] W fun e W'=>e=.returned (.string ⟨(locS x).toArray⟩)/\Below W.heap.size W W':=by
 have a:=h.y;have b:=h.m;have c:=h.d;have d:=h.h;have e:=h.mi;have f:=h.c;have g:=h.nanos;rcases h.sh with⟨j,i⟩|⟨j,i,_⟩|⟨j,i,_⟩
 .have:=zqg x.y x.m x.d x.h x.mi x.c x.nanos of lt (by omega) (by omega) (by omega) (by omega) (by omega) (by omega) g W;unfold locS;rw[j,i];simpa using this
 .have:=zqe x.y x.m x.d x.h x.mi x.c x.nanos of lt (by omega) (by omega) (by omega) (by omega) (by omega) (by omega) g W;unfold locS;rw[j,i];simpa using this
 .have:=zqf x.y x.m x.d x.h x.mi x.c x.nanos of lt (by omega) (by omega) (by omega) (by omega) (by omega) (by omega) g W;unfold locS;rw[j,i];simpa using this
theorem zfr (s:Gr.Str) (hl:s.length<=1073741823) (w:World):
 Calls prog 101 #[.string ⟨s.toArray⟩] w (RIPost (locP s) w):=by
 have o:=hid (fun W=>zdc s hl W);obtain⟨r,hr⟩:=ex (locP s)
 have Y:=hid hr;rw[hr];clear hr;have l:Hid (locP s=match Gr.rd s with|none=>([],3)|some x=>if x.z≠0 then([],3)else if okR x=false then([],13)else(locS x,0)):=hid rfl;cases hrd:Gr.rd s with
 |none=>
  have F:Hid (r=([],3)):=hid (by rw[<-Y.out,l.out,hrd]);have n:=hid hrd;clear hrd;go_enter func101,ntmps101;go_wp2_with fail;refine(o.out _).mono ?_;rintro e J ⟨⟨t0,t1,t2,t3,t4,t5,t6,t7,t8,t9,t10,t11⟩,U,rfl,b,g⟩;rw[n.out]at g;simp only at g;subst g;have a:=hid b;clear b;simp only[RT.v];go_wp2;go_ret2;rw[F.out];exact⟨rfl,a.out.alloc a.out.size _⟩
 |some x=>
  have B:=zqi hrd;have n:=hid hrd;have p:=zqj B;by_cases hz:x.z=0
  .have k:decide (x.z≠0)=false:=by simp[hz]
   have A:=hid k;obtain⟨K,I⟩:=ex (decide (23<x.zh) || decide (59<x.zm))
   obtain⟨of,N⟩:=ex (offS x)
   obtain⟨S,q⟩:=ex x.date
   obtain⟨Q,G⟩:=ex x.time
   have u:=hid (And.intro I N);have C:=hid (And.intro q G);rw[q,I]at p;have E:Hid (∀W,Calls prog 131 #[.agg #[.bool S,.bool Q,.bool false,.int .i64 (x.y:Int),.int .i64 (x.m:Int),.int .i64 (x.d:Int),.int .i64 (x.h:Int),.int .i64 (x.mi:Int),.int .i64 (x.c:Int),.int .i64 (x.nanos:Int),.int .i64 of,.bool K]] W fun e w'=>e=.returned (.bool (okR x))/\Below W.heap.size W w'):=hid (fun W=>by
    have:=zeb S Q false (x.y:Int) (x.m:Int) (x.d:Int) (x.h:Int) (x.mi:Int) (x.c:Int) (x.nanos:Int) of K W;rwa[p]at this)
   have H:=hid (fun W=>zwg B hz of K W);rw[q,G]at H;have f:Hid (r=if okR x=false then([],13)else(locS x,0)):=hid (by rw[<-Y.out,l.out,hrd];simp only;rw[if_neg (by simp[hz])]);obtain⟨M,hM⟩:=ex (locS x)
   rw[hM]at f H;obtain⟨X,D⟩:=ex (okR x)
   rw[D]at f E;clear hrd B p hz k q I N G hM D l;cases X with
   |false=>
    have F:Hid (r=([],13)):=hid (by rw[f.out,if_pos rfl]);clear f;go_enter func101,ntmps101;go_wp2_with fail;refine(o.out _).mono ?_;rintro e J ⟨t,U,rfl,b,g⟩;rw[n.out]at g;simp only at g;obtain⟨rfl,rfl⟩:=g;have a:=hid b;clear b;simp only[RT.v,toRT,A.out,C.out.1,C.out.2,u.out.1,u.out.2];go_wp2_with fail;refine(E.out _).mono ?_;rintro e R ⟨rfl,j⟩;have i:Hid (Below w.heap.size w R):=hid ((a.out.alloc a.out.size _).trans (j.mono (by have:=a.out.size;simp;omega)));clear j;go_wp2;go_ret2;rw[F.out];exact⟨rfl,i.out⟩
   |true=>
    have F:Hid (r=(M,0)):=hid (by rw[f.out,if_neg (by decide)]);clear f;go_enter func101,ntmps101;go_wp2_with fail;refine(o.out _).mono ?_;rintro e J ⟨t,U,rfl,b,g⟩;rw[n.out]at g;simp only at g;obtain⟨rfl,rfl⟩:=g;have a:=hid b;clear b;simp only[RT.v,toRT,A.out,C.out.1,C.out.2,u.out.1,u.out.2];go_wp2_with fail;refine(E.out _).mono ?_;rintro e R ⟨rfl,j⟩;have i:Hid (Blk R J.heap.size 147 (T12 S Q false (x.y:Int) (x.m:Int) (x.d:Int) (x.h:Int) (x.mi:Int) (x.c:Int) (x.nanos:Int) of K)/\Below w.heap.size w R):=hid (by
     have O:=Blk.new J 147 (T12 S Q false (x.y:Int) (x.m:Int) (x.d:Int) (x.h:Int) (x.mi:Int) (x.c:Int) (x.nanos:Int) of K);exact⟨O.below j O.lt,(a.out.alloc a.out.size _).trans (j.mono (by have:=a.out.size;simp;omega))⟩)
    clear j;obtain⟨g4,P⟩:=ex J.heap.size
    rw[P]at i ⊢;clear P;obtain⟨q0,q1,q2,q3,q4,q5,q6,q7,q8,q9,Z,V⟩:=zah i.out.1;go_wp2_with fail;refine(H.out _).mono ?_;rintro e w3 ⟨rfl,L⟩;have T:Hid (Below w.heap.size w w3):=hid (i.out.2.trans (L.mono i.out.2.size));clear L q0 q1 q2 q3 q4 q5 q6 q7 q8 q9 Z V;go_wp2;go_ret2;rw[F.out];exact⟨rfl,T.out⟩
  .have F:Hid (r=([],3)):=hid (by rw[<-Y.out,l.out,hrd];simp only;rw[if_pos hz]);have k:decide (x.z≠0)=true:=by simp[hz]
   have A:=hid k;clear hrd B p hz k l;go_enter func101,ntmps101;go_wp2_with fail;refine(o.out _).mono ?_;rintro e J ⟨t,U,rfl,b,g⟩;rw[n.out]at g;simp only at g;obtain⟨rfl,rfl⟩:=g;have a:=hid b;clear b;simp only[RT.v,toRT,A.out];go_wp2;go_ret2;rw[F.out];exact⟨rfl,a.out.alloc a.out.size _⟩
theorem zmy (s:Gr.Str) (hl:s.length<=1073741823) (w:World):
 Calls prog 70 #[.string ⟨s.toArray⟩] w fun e w'=>e=.returned (.bool (locB s))/\Below w.heap.size w w':=by
 have f:=hid (zfr s hl w);have d:Hid (locB s=decide ((locP s).2=0/\(locP s).1=s)):=hid rfl;obtain⟨r,q⟩:=ex (locB s)
 rw[q]at d ⊢;obtain⟨⟨l,k⟩,n⟩:∃p,locP s=p:=⟨_,rfl⟩
 rw[n]at f d;obtain⟨h,c⟩:∃h:Int,(k:Int)=h:=⟨_,rfl⟩
 unfold RIPost at f;simp only[c]at f d;have o:=hid c;clear q n c;by_cases h0:h=0
 .subst h0;have j:((0:Int)==0)=true:=rfl;by_cases hs:l=s
  .have i:(l==s)=true:=by rw[beq_iff_eq];exact hs
   have g:Hid (r=true):=hid (by rw[d.out];simp[hs];have:=o.out;omega);clear hs;go_enter func70,ntmps70;go_wp2_with fail;refine f.out.mono ?_;rintro e m ⟨rfl,a⟩;have b:=hid a;clear a;go_wp2;go_ret;rw[g.out];exact⟨rfl,b.out⟩
  .have i:(l==s)=false:=by rw[beq_eq_false_iff_ne];exact hs
   have g:Hid (r=false):=hid (by rw[d.out];simp[hs]);clear hs;go_enter func70,ntmps70;go_wp2_with fail;refine f.out.mono ?_;rintro e m ⟨rfl,a⟩;have b:=hid a;clear a;go_wp2;go_ret;rw[g.out];exact⟨rfl,b.out⟩
 .have j:(h==0)=false:=by simpa using h0
  have g:Hid (r=false):=hid (by rw[d.out];simp;intro e;exact absurd (by have:=o.out;omega) h0);go_enter func70,ntmps70;go_wp2_with fail;refine f.out.mono ?_;rintro e m ⟨rfl,a⟩;have b:=hid a;clear a;go_wp2;go_ret;rw[g.out];exact⟨rfl,b.out⟩
end Go.Proofs.YtpgmfihonmoliaaGreatDoor

import Derived.Test.YtpgmfihonmoliabGreatDoorGrReplR
open _root_.Go.RowKit.Below renaming refl->K2
open _root_.Go.Proofs.YtpgmfihonmoliabGreatDoor.Blk renaming new->Q3
open _root_.Go renaming bodyPost_ret->Q9,results_cell_tmp->Y0
open _root_.Go.Proofs.YtpgmfihonmoliabGreatDoor.Gr renaming rpl->K0,rpN->K4,few->Q2,joinN->Q5,dupB->Q8
open _root_.Int renaming toNat_natCast->Q1
open _root_.Go.Proofs.YtpgmfihonmoliabGreatDoor.KeptT renaming later->K3,setCell->K6,refl->Q7
open _root_.List renaming length_map->K1,mem_append_right->K7,mem_append_left->K8,length_append->Q0,mem_map->Q4
open _root_.Nat renaming le_refl->K5,zero_le->K9,le_trans->Q6
namespace Go.Proofs.YtpgmfihonmoliabGreatDoor
open Gr
open _root_.Go.Proofs.Tryz
open _root_.Go.Lib (hid)
set_option maxRecDepth 100000
set_option maxHeartbeats 16000000
open Go.RowKit
theorem zf5 (A A2:Option Addr) (c c2 n n2:Nat) (root node rw':Int) (ck cv no:Nat) (hn:n<=40) (w:World) (hg:ChkOk w (.agg #[.slice A n c,.int .i64 root]) ck) (hw:ChkOk w (.agg #[.slice A2 n2 c2,.int .i64 rw']) cv)
 (hno:(ck≠0/\no=3)\/(ck=0/\cv≠0/\no=3)\/(ck=0/\cv=0/\(node<0\/(n:Int)<=node)/\no=2)):
 Calls prog 6 #[.agg #[.slice A n c,.int .i64 root],.int .i64 node,.agg #[.slice A2 n2 c2,.int .i64 rw']] w (ResR (([],0),no) w):=by
 have p:=hid hg;have o:=hid hw;have g:=hid hno;have i:Hid (w.heap.size=w.heap.size):=hid rfl;clear hg hw hno;go_enter func6,ntmps6;go_upto_region 1 with fail;obtain⟨L,h⟩:=ex (((w.alloc (.cells #[.slice A n c,.int .i64 root] 24)).alloc (.cells #[.slice A2 n2 c2,.int .i64 rw'] 24)).alloc (.cells #[.slice none 0 0,.int .i64 0] 24))
 obtain⟨r,b⟩:=ex w.heap.size
 obtain⟨j,J,u⟩:=Box3.new b h;have a:=hid b;have G:=hid J;have q:=hid j;obtain⟨s,z⟩:=cells2 j.b1;rw[b]at i;(try rw[h]);(try rw[b]);(try rw[show r+1+1=r+2 from rfl]);clear h b j J u;go_wp2_with fail;refine(p.out L (by rw[a.out];exact G.out)).mono ?_;rintro e I ⟨rfl,k⟩;have f:=hid (q.out.later k);have F:Hid (Below r w I):=hid (G.out.trans (k.mono (by have:=q.out.lt;omega)));clear k s z p;by_cases h0:ck=0
 rotate_left
 .have y:((ck:Int) != 0)=true:=by rw[bne_iff_ne];omega
  have m:Hid (no=3):=hid (by have:=g.out;omega);obtain⟨x,D,E⟩:=f.out.zero;go_wp2_with fail;refine Q9 (v:=.tuple #[gZero,.int .i64 3]) (by rw[Y0 rfl];go_simp;rfl) rfl ?_;rw[m.out];exact zbh 3 a.out F.out
 .have y:((ck:Int) != 0)=false:=by rw[h0];rfl
  have t:=hid h0;obtain⟨s,z⟩:=cells2 f.out.b2;clear h0;go_wp2_with fail;refine(o.out I (by rw[a.out];exact F.out)).mono ?_;rintro e H ⟨rfl,l⟩;have d:=hid (f.out.later l);have B:Hid (Below r w H):=hid (F.out.trans (l.mono (by have:=f.out.lt;omega)));clear l s z o;by_cases h1:cv=0
  rotate_left
  .have C:((cv:Int) != 0)=true:=by rw[bne_iff_ne];omega
   have m:Hid (no=3):=hid (by have:=g.out;have:=t.out;omega);clear h1;obtain⟨x,D,E⟩:=d.out.zero;go_wp2_with fail;refine Q9 (v:=.tuple #[gZero,.int .i64 3]) (by rw[Y0 rfl];go_simp;rfl) rfl ?_;rw[m.out];exact zbh 3 a.out B.out
  .have C:((cv:Int) != 0)=false:=by rw[h1];rfl
   have m:Hid (no=2):=hid (by have:=g.out;have:=t.out;omega);have K:Hid (node<0\/(n:Int)<=node):=hid (by have:=g.out;have:=t.out;omega);have s:H.cell? ⟨r,0,none⟩=some (.slice A n c):=d.out.b1.cell 0;clear h1;by_cases hn1:node<0
   .skip
    obtain⟨x,D,E⟩:=d.out.zero;go_wp2_with fail;refine Q9 (v:=.tuple #[gZero,.int .i64 2]) (by rw[Y0 rfl];go_simp;rfl) rfl ?_;rw[m.out];exact zbh 2 a.out B.out
   .have hn2:(n:Int)<=node:=by have:=K.out;omega
    obtain⟨x,D,E⟩:=d.out.zero;go_wp2_with fail;refine Q9 (v:=.tuple #[gZero,.int .i64 2]) (by rw[Y0 rfl];go_simp;rfl) rfl ?_;rw[m.out];exact zbh 2 a.out B.out
theorem zol (A A2:Option Addr) (c c2 r q k:Nat) (vs us:List NV) (gs hs:List Gr.Nd) (G:ReplG gs hs r q) (hk:k<gs.length) (w:World) (hT:UT w) (hg:ChkOk w (.agg #[.slice A gs.length c,.int .i64 (r:Int)]) 0) (hw:ChkOk w (.agg #[.slice A2 hs.length c2,.int .i64 (q:Int)]) 0) (h:GAt w w.heap.size A vs gs) (h2:GAt w w.heap.size A2 us hs):
 Calls prog 6 #[.agg #[.slice A gs.length c,.int .i64 (r:Int)],.int .i64 (k:Int),.agg #[.slice A2 hs.length c2,.int .i64 (q:Int)]] w (ResR (if mkd (inKeys gs) k=true/\Q8 hs q=true then(([],0),16)else endL (Q5 gs hs k (q+gs.length)) (K0 k (q+gs.length) r)) w):=by
 have HG:=hid G;have aG:=hid hg;have aL:=hid hw;have HA:Hid (∀W,Below w.heap.size w W->GAt W w.heap.size A vs gs/\GAt W w.heap.size A2 us hs):=hid (fun W V=>⟨h.below V,h2.below V⟩);have bC:Hid (∀W,Below w.heap.size w W->UT W):=hid (fun W V=>UT.stays _ _ hT V);have s:Hid (∀W,Below w.heap.size w W->Calls prog 15 #[.agg #[.slice A gs.length c,.int .i64 (r:Int)]] W fun e w'=>∃ob,e=.returned (.slice (some ⟨ob,0,none⟩) gs.length gs.length)/\W.heap.size<=ob/\Below W.heap.size W w'/\Blk w' ob 4 (bcells (inKeys gs))):=hid (fun W V=>
  zgh A c (r:Int) vs gs G.rf (by have:=G.gl;omega) (fun n hn=>by have:=G.ge n hn;omega) W ((h.below V).more V.size))
 have al:Hid (∀W,Below w.heap.size w W->Calls prog 16 #[.agg #[.slice A2 hs.length c2,.int .i64 (q:Int)]] W fun e w'=>e=.returned (.bool (Q8 hs q))/\Below W.heap.size W w'):=hid (fun W V=>
  zok A2 c2 q us hs G.wf.refs (by have:=G.hl;omega) (fun n hn=>by have:=G.he n hn;omega) G.wf.root W ((h2.below V).more V.size))
 have bn:Hid (k<(inKeys gs).length):=hid (by rw[zcy G.rf];exact hk);obtain⟨mk,aN⟩:=ex (mkd (inKeys gs) k)
 obtain⟨du,aS⟩:=ex (Q8 hs q)
 have bm:=hid aN;obtain⟨J,hJ⟩:=ex (Q5 gs hs k (q+gs.length))
 obtain⟨ro,B⟩:=ex (K0 k (q+gs.length) r)
 have am:=hid (G.join k);rw[hJ,B]at am;obtain⟨E,hE⟩:∃E,(if mk=true/\du=true then(([],0),16)else endL J ro)=E:=⟨_,rfl⟩
 have aP:=hid hE;have bS:=G.gl;have bB:=G.hl;have bN:=G.rr;have bE:=G.wf.root;have HJ:Hid (Q5 gs hs k (q+gs.length)=J/\K0 k (q+gs.length) r=ro):=hid ⟨hJ,B⟩;rw[aS]at al;rw[aN,aS,hJ,B,hE];obtain⟨n,hn⟩:=ex gs.length
 obtain⟨n2,ao⟩:=ex hs.length
 rw[hn]at aG s am HJ bS bN hk;rw[ao]at aL al am bB bE;have Y:=hid (And.intro hn ao);rw[hn,ao];clear G hg hw h h2 aN aS hJ B hE hn ao hT;go_enter func6,ntmps6;go_upto_region 1 with fail;obtain⟨w1,aX⟩:=ex (((w.alloc (.cells #[.slice A n c,.int .i64 (r:Int)] 24)).alloc (.cells #[.slice A2 n2 c2,.int .i64 (q:Int)] 24)).alloc (.cells #[.slice none 0 0,.int .i64 0] 24))
 obtain⟨u,y⟩:=ex w.heap.size
 obtain⟨az,l1,bL⟩:=Box3.new y aX;have o:=hid y;have L1:=hid l1;have aI:=hid az;obtain⟨P,X⟩:=cells2 az.b1;rw[y]at s;(try rw[aX]);(try rw[y]);(try rw[show u+1+1=u+2 from rfl]);clear aX y az l1 bL;go_wp2_with fail;refine(aG.out w1 (by rw[o.out];exact L1.out)).mono ?_;rintro e w2 ⟨rfl,I⟩;have aq:=hid (aI.out.later I);have L2:Hid (Below u w w2):=hid (L1.out.trans (I.mono (by have:=aI.out.lt;omega)));clear I P X aG;have bR:(((0:Nat):Int) != 0)=false:=rfl;obtain⟨P,X⟩:=cells2 aq.out.b2;go_wp2_with fail;refine(aL.out w2 (by rw[o.out];exact L2.out)).mono ?_;rintro e w3 ⟨rfl,aT⟩;have av:=hid (aq.out.later aT);have L3:Hid (Below u w w3):=hid (L2.out.trans (aT.mono (by have:=aq.out.lt;omega)));clear aT P X aL;obtain⟨P,X⟩:=cells2 av.out.b1;have bJ:¬(k:Int)<0:=by omega
 have ai:¬(n:Int)<=(k:Int):=by omega
 go_upto_region 5 with fail;go_cut [43] (fun s43 wx=>s43=.bool (mk && du)/\∃wy,wy=wx/\Hid (Below u w wy/\Box3 u #[.slice A n c,.int .i64 (r:Int)] #[.slice A2 n2 c2,.int .i64 (q:Int)] #[.slice none 0 0,.int .i64 0] wy))
 case first=>
  go_wp2_with fail;refine(s.out w3 L3.out).mono ?_;rintro e w4 ⟨ob,rfl,bI,ay,bi⟩;have ak:=hid (av.out.later ay);have L4:Hid (Below u w w4):=hid (L3.out.trans (ay.mono (by have:=av.out.lt;omega)));have z0:w4.cell? ⟨ob,k,none⟩=some (.bool mk):=by rw[bi.cell,zae bn.out];exact congrArg (fun b=>some (Value.bool b)) bm.out
  clear P X ay bi bI;have hknI:(k:Int)<(n:Int):=by omega
  cases mk with
  |false=>
   go_wp2;go_meet;exact⟨rfl,_,rfl,hid ⟨L4.out,ak.out⟩⟩
  |true=>
   obtain⟨P,X⟩:=cells2 ak.out.b2;go_wp2_with fail;refine(al.out w4 (by rw[o.out];exact L4.out)).mono ?_;rintro e w5 ⟨rfl,aF⟩;have bx:=hid (ak.out.later aF);have L5:Hid (Below u w w5):=hid (L4.out.trans (aF.mono (by have:=ak.out.lt;omega)));clear P X z0 aF;cases du<;>(go_wp2;go_meet;exact⟨rfl,_,rfl,hid ⟨L5.out,bx.out⟩⟩)
 case rest=>
  obtain⟨rfl,w6,rfl,HX⟩:=hcut;have ag:=hid HX.out.2;have L6:=hid HX.out.1;obtain⟨b,hb⟩:=ex (mk && du)
  have aW:=hid hb;rw[hb];clear HX hb P X bJ ai s al av aq aI L1 L2 L3 bn bm bR;cases b with
  |true=>
   have HE:Hid (E=(([],0),16)):=hid (by rw[<-aP.out,if_pos (by simpa using aW.out)]);obtain⟨d0,d1,df⟩:=ag.out.zero;go_wp2_with fail;refine Q9 (v:=.tuple #[gZero,.int .i64 16]) (by rw[Y0 rfl];go_simp;rfl) rfl ?_;rw[HE.out];exact zbh 16 o.out L6.out
  |false=>
   have HE:Hid (endL J ro=E):=hid (by rw[<-aP.out,if_neg (by have:=aW.out;intro h;rw[h.1,h.2]at this;cases this)]);clear aP aW;obtain⟨a,bh⟩:=ex w6.heap.size
   have z:Hid (u+3<=a/\w.heap.size<=a/\w6.heap.size=a):=hid (by have:=ag.out.lt;have:=o.out;omega);have aZ:Hid (∀W,Below a w6 W->Below u w W):=hid (fun W V=>L6.out.trans (V.mono (by have:=z.out;omega)));have C:=zcl a A c r vs gs (.slice none 0 0) [] [] (by have:=Y.out;omega) (by simp;have:=Y.out;omega) (fun x R=>by have:=HG.out.ge x R;omega) HG.out.rf HG.out.rr w6 ((HA.out w6 (by rw[o.out];exact L6.out)).1.more z.out.2.1) ⟨OwnRow.nil,Rows.nil _ _⟩ (Nat.le_of_eq bh.symm);rw[Y.out.1,List.nil_append,List.length_nil,shN00,show(r:Int)+((0:Nat):Int)=(r:Int)from Int.add_zero _]at C;have ba:=hid C;obtain⟨P,X⟩:=cells2 ag.out.b1;clear C bh;go_wp2_with fail;refine ba.out.mono ?_;rintro e w7 ⟨v7,bw,rfl,aO,Z,_⟩;obtain⟨A7,c7,a1,_⟩:=aO.at_;rw[Y.out.1]at a1;subst a1;obtain⟨t,ht⟩:=ex (q+n)
   have a2:(q:Int)+(n:Int)=(t:Int):=by omega
   have L7:Hid (Below a w6 w7):=hid Z;have aQ:Hid (Box3 u #[.slice A n c,.int .i64 (r:Int)] #[.slice A2 n2 c2,.int .i64 (q:Int)] #[.slice none 0 0,.int .i64 0] w7):=hid (ag.out.below Z z.out.1);have C:=zcl a A2 c2 q us hs (.slice A7 n c7) bw gs (by have:=Y.out;omega) (by have:=Y.out;omega) (fun x R=>by have:=HG.out.he x R;omega) HG.out.wf.refs HG.out.wf.root w7 ((HA.out w7 (by rw[o.out];exact aZ.out w7 Z)).2.more z.out.2.1) aO (by have:=Z.size;have:=z.out;omega);rw[Y.out.1,Y.out.2,a2]at C;have aw:=hid C;clear C aO Z P X ba;obtain⟨P,X⟩:=cells2 aQ.out.b2;go_wp2_with fail;refine aw.out.mono ?_;rintro e w8 ⟨v8,d,rfl,aj,ap,_⟩;obtain⟨T,hT⟩:=ex (hs.map (shN n))
   rw[hT]at aj;obtain⟨A8,c8,a9,_⟩:=aj.at_;obtain⟨N,ah⟩:=ex ((gs++T).length)
   rw[ah]at a9;subst a9;have bo:Hid (gs.length=n/\gs.length+T.length=N/\N=n+n2):=hid ⟨Y.out.1,by rw[<-ah,Q0],by rw[<-ah,Q0,<-hT,K1,Y.out.1,Y.out.2]⟩;have L8:Hid (Below a w6 w8/\a<=w8.heap.size):=hid ⟨L7.out.trans ap,by have:=L7.out.size;have:=ap.size;have:=z.out;omega⟩;have bl:Hid (Box3 u #[.slice A n c,.int .i64 (r:Int)] #[.slice A2 n2 c2,.int .i64 (q:Int)] #[.slice none 0 0,.int .i64 0] w8):=hid (aQ.out.below ap z.out.1);have be:Hid (Tab a w8 (.slice A8 N c8) d (midN (K4 k t) gs T 0)):=hid (by unfold midN;simpa using aj);have aB:Hid (midN (K4 k t) gs T n=J/\K0 k t r=ro):=hid (by
    have O:=zjz gs hs k t;rw[Y.out.1,hT]at O;have h2:=HJ.out;rw[ht]at h2;exact⟨O.trans h2.1,h2.2⟩)
   clear aj ap P X aw hT ah a2 ag aQ L7;have P:w8.cell? ⟨u,0,none⟩=some (.slice A n c):=bl.out.b1.cell 0;go_upto_region 10 with fail;clear P;go_loopw [59] (fun s59 wr=>∃i:Nat,i<=n/\s59=.int .i64 i/\Hid (Tab a wr (.slice A8 N c8) d (midN (K4 k t) gs T i)/\Below a w8 wr)) (fun s59 _=>n-(intOf s59).toNat)
   case atStart=>exact⟨0,K9 _,rfl,hid ⟨be.out,K2 _ _⟩⟩
   case round=>
    obtain⟨i,hi,rfl,HV⟩:=hrel;obtain⟨wq,bz⟩:∃wq,wq=wr:=⟨_,rfl⟩
    subst bz;clear be;by_cases hlt:i<n
    .have bs:(i:Int)<(n:Int):=by omega
     have ar:i<gs.length:=by rw[bo.out.1];exact hlt
     have au:=zmd (K4 k t) gs T i ar;have f:=zmc (K4 k t) gs T i ar;have ac:=zh4 (K4 k t) gs T i;have aY:=HG.out.ge _ (List.getElem_mem ar);obtain⟨m,hm⟩:=ex (gs[i])
     rw[hm]at au f aY;obtain⟨M,hM⟩:=ex (midN (K4 k t) gs T i)
     simp only[hM]at au f ac;rw[hM]at HV;have S:i<M.length:=by rw[ac];omega
     have bP:Hid (M.set i (stN (K0 k t) m 2)=midN (K4 k t) gs T (i+1)):=hid au;have bb:Hid (M.set i (stN (K0 k t) m 0)=M):=hid (by rw[zzw,<-f];exact List.set_getElem_self S);have bk:=hid S;have bU:=hid aY;have hni:i<N:=by have:=bo.out;omega
     have hniI:(i:Int)<(N:Int):=by omega
     obtain⟨ad,ca,bc,x3,x4⟩:=HV.out.1.nodeV S;obtain rfl:A8=some ad:=by injection bc
     obtain⟨ka,kc,aa⟩:=SV.is HV.out.1 i false;obtain⟨ia,ic,ae⟩:=SV.is HV.out.1 i true;rw[zf4 M i false S,show rowN M[i] false=m.keys from congrArg Gr.Nd.keys f]at aa;rw[zf4 M i true S,show rowN M[i] true=m.items from congrArg Gr.Nd.items f]at ae;rw[aa]at x3;rw[ae]at x4;obtain⟨kn,ai⟩:=ex m.keys.length
     obtain⟨U,a4⟩:=ex m.items.length
     rw[ai]at x3 aa;rw[a4]at x4 ae;have bf:=hid (And.intro aa ae);have bM:Hid (a<=wq.heap.size):=hid (Q6 L8.out.2 HV.out.2.size);clear au f ac aY hm hM S bc aa ae ai a4 ar;go_upto_region 12 with fail;go_cut [72,73,74] (fun s72 s73 s74 wx=>s73=.int .i64 2/\s74=.int .i64 0/\∃lb wy,s72=.slice (some ⟨lb,0,none⟩) 2 2/\wy=wx/\Hid (Below wq.heap.size wq wy/\Blk wy lb 35 #[.slice ka kn kc,.slice ia U ic]))
     case first=>
      go_region
      all_goals
       go_wp2;go_meet;exact⟨rfl,rfl,_,_,rfl,rfl,hid ⟨by first|exact((K2 _ _).drew.alloc (K5 _) _)|exact((K2 _ _).alloc (K5 _) _).drew,Q3 _ _ _⟩⟩
     case rest=>
      obtain⟨rfl,rfl,lb,wy,rfl,rfl,HW⟩:=hcut;clear x3 x4;have bd:Hid (Tab a wy (.slice (some ad) N c8) d (M.set i (stN (K0 k t) m 0))/\Below a wq wy):=hid ⟨by rw[bb.out];exact HV.out.1.later HW.out.1,HW.out.1.mono bM.out⟩;go_upto_region 13 with fail;go_loopw [74] (fun s74 wr=>∃b:Nat,b<=2/\s74=.int .i64 b/\Hid (PRel a wy wr ad N c8 d (M.set i (stN (K0 k t) m b)) lb (.slice ka kn kc) (.slice ia U ic))) (fun s74 _=>2-(intOf s74).toNat)
      case atStart=>exact⟨0,K9 _,rfl,hid ⟨bd.out.1,K2 _ _,HW.out.2⟩⟩
      case round=>
       obtain⟨b,hb,rfl,HU⟩:=hrel;obtain⟨wz,bD⟩:∃wz,wz=wr:=⟨_,rfl⟩
       subst bD;by_cases I:b<2
       .have bg:(b:Int)<2:=by omega
        obtain⟨l,hl⟩:=ex (rowN m (b==1))
        have hll:l.length<=1000:=by
         rw[<-hl];unfold rowN;have:=bU.out;split<;>omega
        obtain⟨xa,xc,R⟩:=SV.is HU.out.1 i (b==1);rw[zf4 _ i _ (by rw[List.length_set];exact bk.out),List.getElem_set_self,zyg _ _ _ I,hl]at R;have z0:wz.cell? ⟨lb,b,none⟩=some (.slice xa l.length xc):=by
         rw[HU.out.2.2.cell,<-R];have h:b=0\/b=1:=by omega
         rcases h with rfl|rfl
         .exact congrArg some bf.out.1.symm
         .exact congrArg some bf.out.2.symm
        have HX:=hid R;have bO:Hid (Tab a wz (.slice (some ad) N c8) d (M.set i (setI (stN (K0 k t) m b) (b==1) (prL (K0 k t) l 0)))):=hid (by rw[<-hl,zf3 _ _ _ I];exact HU.out.1);have bQ:Hid (setI (stN (K0 k t) m b) (b==1) (prL (K0 k t) l l.length)=stN (K0 k t) m (b+1)):=hid (by rw[<-hl];exact zh5 _ _ _ I);clear R hl;go_upto_region 16 with fail;clear z0;go_loopw [80] (fun s80 wr=>∃j:Nat,j<=l.length/\s80=.int .i64 j/\Hid (PRel a wy wr ad N c8 d (M.set i (setI (stN (K0 k t) m b) (b==1) (prL (K0 k t) l j))) lb (.slice ka kn kc) (.slice ia U ic))) (fun s80 _=>l.length-(intOf s80).toNat)
        case atStart=>exact⟨0,K9 _,rfl,hid ⟨bO.out,HU.out.2.1,HU.out.2.2⟩⟩
        case round=>
         obtain⟨j,hj,rfl,HS⟩:=hrel;obtain⟨wv,bT⟩:∃wv,wv=wr:=⟨_,rfl⟩
         subst bT;by_cases hjl:j<l.length
         .have a3:(j:Int)<(l.length:Int):=by omega
          obtain⟨g,gc,aU,a7,y0,yf,⟨gcs,y⟩,an⟩:=Tab.ren bk.out HS.out.1 hjl;obtain rfl:xa=some ⟨g,0,none⟩:=by rw[HX.out]at aU;injection aU
          obtain⟨x,R⟩:=ex (l[j])
          have F:=zh3 (K0 k t) l j hjl;rw[R]at y0 an F;have aC:Hid (x=k->PRel a wy (wv.setCell ⟨g,j,none⟩ (.int .i64 (t:Int))) ad N c8 d (M.set i (setI (stN (K0 k t) m b) (b==1) (prL (K0 k t) l (j+1)))) lb (.slice ka kn kc) (.slice ia U ic)):=hid (fun h=>by
           rw[show K0 k t x=t from if_pos h]at an;exact⟨an,HS.out.2.1.setCell (p:=⟨g,j,none⟩) a7 _,K6 (p:=⟨g,j,none⟩) y (by decide) _ _ _ HS.out.2.2⟩)
          have aA:Hid (x≠k->PRel a wy wv ad N c8 d (M.set i (setI (stN (K0 k t) m b) (b==1) (prL (K0 k t) l (j+1)))) lb (.slice ka kn kc) (.slice ia U ic)):=hid (fun h=>by
           rw[<-F (if_neg h)];exact HS.out)
          clear aU a7 y an F R;by_cases hxk:x=k
          .subst hxk;have a0:((x:Int)==(x:Int))=true:=beq_self_eq_true _;have L:=hid (aC.out rfl);clear aC aA;go_wp2;go_roundw
           case rel=>exact⟨j+1,by omega,by go_num,L⟩
           case measure=>simp[intOf];omega
          .have a0:((x:Int)==(k:Int))=false:=by rw[qqq];omega
           have L:=hid (aA.out hxk);clear aC aA hxk;go_wp2;go_roundw
           case rel=>exact⟨j+1,by omega,by go_num,L⟩
           case measure=>simp[intOf];omega
         .have a3:¬(j:Int)<(l.length:Int):=by omega
          have L:Hid (PRel a wy wv ad N c8 d (M.set i (stN (K0 k t) m (b+1))) lb (.slice ka kn kc) (.slice ia U ic)):=hid (by
           have O:=HS.out;rw[show j=l.length by omega,bQ.out]at O;exact O)
          go_wp2;go_roundw
          case rel=>exact⟨b+1,by omega,by go_num,L⟩
          case measure=>simp[intOf];omega
       .have bg:¬(b:Int)<2:=by omega
        have L:Hid (Tab a wz (.slice (some ad) N c8) d (midN (K4 k t) gs T (i+1))/\Below a w8 wz):=hid (by
         have O:=HU.out;rw[show b=2 by omega,bP.out]at O;exact⟨O.1,(HV.out.2.trans bd.out.2).trans O.2.1⟩)
        go_wp2;go_roundw
        case rel=>exact⟨i+1,by omega,by go_num,L⟩
        case measure=>simp[intOf];omega
    .have bs:¬(i:Int)<(n:Int):=by omega
     have aJ:Hid (Tab a wq (.slice A8 N c8) d J/\Below a w6 wq/\a<=wq.heap.size):=hid (by
      have O:=HV.out;rw[show i=n by omega,aB.out.1]at O;exact⟨O.1,L8.out.1.trans O.2,Q6 L8.out.2 O.2.size⟩)
     have B:=aB.out.2;have bH:Hid (Box3 u #[.slice A n c,.int .i64 (r:Int)] #[.slice A2 n2 c2,.int .i64 (q:Int)] #[.slice none 0 0,.int .i64 0] wq):=hid (bl.out.below HV.out.2 z.out.1);obtain⟨A9,c9,a5,bp⟩:=aJ.out.1.at_;obtain⟨aR,aH,hjl,aV⟩:=am.out;obtain⟨f1,f2,f3,f4⟩:=zee aR aH aV;have aE:=zvg A9 c9 ro d J aR (by rw[hjl];omega) (fun x R=>by have:=aV x R;omega) aH wq bp;obtain⟨jl,ax⟩:=ex J.length
     rw[ax]at aE a5 f3 hjl;injection a5 with e1 e2 e3
     subst e1 e2 e3;have bv:=hid aE;obtain⟨K,hK⟩:=ex (Gr.keptN J (marks J ro))
     obtain⟨ra,aM⟩:=ex ((Gr.atL (marks J ro)).getD ro 0)
     have D:=hid (And.intro hK aM);rw[hK]at f1 f2 f3 f4;rw[aM]at f2;have HF:Hid (Refs K/\ra<K.length/\K.length<=1000/\∀n∈K,n.keys.length<=1000/\n.items.length<=1000/\n.text.length<=1000):=hid ⟨f1,f2,by omega,f4⟩;clear bp aR aH aV aE f1 f2 f3 f4 hK aM ax HV hjl;have a8:(((r:Int)==(k:Int))=true/\ro=t)\/(((r:Int)==(k:Int))=false/\ro=r):=by
      by_cases hrk:r=k
      .exact .inl ⟨by rw[qkq];omega,by rw[<-B];exact if_pos hrk⟩
      .exact .inr ⟨by rw[qqq];omega,by rw[<-B];exact if_neg hrk⟩
     have bu:=hid a8;clear B a8 aB HJ;rcases bu.out with⟨a0,rfl⟩|⟨a0,rfl⟩
     all_goals
      clear bu;go_wp2_with fail;refine bv.out.mono ?_;rintro e H ⟨ab,A5,c5,br,rfl,hK⟩;have bG:=hid hK;have bt:Hid (Below a w6 H):=hid (aJ.out.2.1.trans (ab.mono aJ.out.2.2));have a6:=hid (bH.out.later ab);have aD:=ck_g HF.out.1 HF.out.2.1 HF.out.2.2.1 HF.out.2.2.2 A5 c5 br H (bC.out H (by rw[o.out];exact aZ.out H bt.out)) (by
       have:=hK H (Q7 _ _) (Q7 _ _);rwa[D.out.1]at this)
      rw[D.out.1,D.out.2];obtain⟨cz,aK⟩:=ex (checkG sclX K ra)
      rw[aK]at aD;have bK:=hid aK;have bj:=hid (zsy (zf0 A5 K.length c5 ra cz H aD));clear hK aD aK ab bv;go_wp2_with fail;refine bj.out.mono ?_;rintro e bA ⟨af,A4,n4,c4,r4,rfl,bF⟩;have Q:=hid (a6.out.later af);have bq:=hid af;obtain⟨d0,d1⟩:=cells2 Q.out.b3;have df:∀i,bA.frozen? ⟨u+2,i,none⟩=false:=Q.out.b3.frozen;clear af bj;go_wp2_with fail;refine Q9 (v:=.tuple #[.agg #[.slice A4 n4 c4,.int .i64 r4],.int .i64 cz]) (by rw[Y0 rfl];go_simp) rfl ?_;rw[<-HE.out];refine zmf (vs2:=br) (A2:=A5) (c2:=c5) bG.out (by rw[D.out.1,D.out.2];exact bK.out) (by rw[D.out.1,D.out.2];exact bF.out) ?_ (fun t ht=>?_)
      .rw[o.out];exact(((aZ.out H bt.out).trans (bq.out.mono (by have:=a6.out.lt;omega))).setCell (by simp) _).setCell (by simp) _
      .exact(K3 bq.out).trans ((K6 (p:=⟨u+2,0,none⟩) Q.out.b3 ht _).trans (K6 (p:=⟨u+2,1,none⟩) (Q.out.b3.set_ 0 _) ht _))
theorem zs0 (A A2:Option Addr) (c c2:Nat) (root node rw':Int) (vs us:List NV) (is ws:List Gr.Ni) (hl:is.length<=40/\ws.length<=40) (hks:∀x∈is++ws,x.text.length<=1000/\x.keys.length<=1000/\x.items.length<=1000) (w:World) (hT:UT w) (h:IAt w w.heap.size A vs is) (h2:IAt w w.heap.size A2 us ws):
 Calls prog 6 #[.agg #[.slice A is.length c,.int .i64 root],.int .i64 node,.agg #[.slice A2 ws.length c2,.int .i64 rw']] w (ResR (replL is root node ws rw') w):=by
 have a:ChkOk w (.agg #[.slice A is.length c,.int .i64 root]) (checkI sclX is root):=zzr A c root vs is (fun y i=>by have:=hks y (K8 _ i);omega) (by omega) w hT h;have b:ChkOk w (.agg #[.slice A2 ws.length c2,.int .i64 rw']) (checkI sclX ws rw'):=zzr A2 c2 rw' us ws (fun y i=>by have:=hks y (K7 _ i);omega) (by omega) w hT h2;by_cases h0:checkI sclX is root=0
 .by_cases h1:checkI sclX ws rw'=0
  .by_cases hn:node<0\/(is.length:Int)<=node
   .rw[zk3 h0 h1 hn];exact zf5 A A2 c c2 is.length ws.length root node rw' _ _ 2 hl.1 w a b (Or.inr (Or.inr ⟨h0,h1,hn,rfl⟩))
   .obtain⟨k,rfl⟩:∃k:Nat,node=(k:Int):=⟨node.toNat,by omega⟩
    rw[zh0 h0 h1 (by omega)];rw[h0]at a;rw[h1]at b;obtain⟨r,rfl,e,g,_⟩:=Gr.za5 zaw h0;obtain⟨q,rfl,f,d,_⟩:=Gr.za5 zaw h1;have m:(is.map Gr.Ni.nd).length=is.length:=K1 ..;have o:(ws.map Gr.Ni.nd).length=ws.length:=K1 ..;have l:=zol A A2 c c2 r q k vs us (is.map Gr.Ni.nd) (ws.map Gr.Ni.nd) ⟨e.refs,e.root,f,by omega,by omega,fun n hn=>by
     obtain⟨x,j,rfl⟩:=Q4.1 hn;have:=hks x (K8 _ j);simp only[Gr.Ni.nd,K1];omega,fun n hn=>by
     obtain⟨x,j,rfl⟩:=Q4.1 hn;have:=hks x (K7 _ j);simp only[Gr.Ni.nd,K1];omega⟩ (by omega) w hT (by rw[m];exact a) (by rw[o];exact b) (h.toG (za1 g).1) (h2.toG (za1 d).1)
    rw[m,o]at l;rw[Q1,Q1];exact l
  .rw[zed (Or.inr h1)];exact zf5 A A2 c c2 is.length ws.length root node rw' _ _ 3 hl.1 w a b (Or.inr (Or.inl ⟨h0,h1,rfl⟩))
 .rw[zed (Or.inl h0)];exact zf5 A A2 c c2 is.length ws.length root node rw' _ _ 3 hl.1 w a b (Or.inl ⟨h0,rfl⟩)
structure LBox (g0:Nat) (a b:Array Value) (W:World):Prop where
 b0:Blk W g0 24 a
 b1:Blk W (g0+1) 24 b
theorem LBox.later {g0:Nat} {a b:Array Value} {W W':World} (h:LBox g0 a b W) (hb:Below W.heap.size W W'):LBox g0 a b W':=⟨h.b0.below hb h.b0.lt,h.b1.below hb h.b1.lt⟩
theorem zas {g0:Nat} {w a b:World} (hg:w.heap.size=g0) (h:Below g0 w a) (hb:Below a.heap.size a b):Below g0 w b:=h.trans (hb.mono (by have:=h.size;omega))
theorem zk5 {w w1:World} {g:Nat} {cs:Array Value} (hg:w.heap.size=g) (h:w.alloc (.cells cs 24)=w1):Blk w1 g 24 cs/\Below w.heap.size w w1:=by
 subst hg;subst h;exact⟨Q3 _ _ _,(K2 _ _).alloc (K5 _) _⟩
theorem zh9 (A:Option Addr) (c:Nat) (root:Int) (vs:List NV) (is:List Gr.Ni) (node:Int) (A2:Option Addr) (c2:Nat) (rw':Int) (us:List NV) (ws:List Gr.Ni) (hz:Sz is) (hz2:Sz ws) (w:World) (hUT:UT w) (h:IAt w w.heap.size A vs is) (h2:IAt w w.heap.size A2 us ws):
 Calls prog 3 #[.agg #[.slice A is.length c,.int .i64 root],.int .i64 node,.agg #[.slice A2 ws.length c2,.int .i64 rw']] w fun e w'=>e=.returned (.bool true)/\Below w.heap.size w w':=by
 obtain⟨d,i⟩:=ex w.heap.size
 obtain⟨w1,H⟩:=ex ((w.alloc (.cells #[.slice A is.length c,.int .i64 root] 24)).alloc (.cells #[.slice A2 ws.length c2,.int .i64 rw'] 24))
 have ah:LBox d #[.slice A is.length c,.int .i64 root] #[.slice A2 ws.length c2,.int .i64 rw'] w1:=by
  rw[<-H,<-i];refine⟨(Q3 _ _ _).alloc _,?_⟩;have:=Q3 (w.alloc (.cells #[.slice A is.length c,.int .i64 root] 24)) 24 #[.slice A2 ws.length c2,.int .i64 rw'];rwa[World.size_alloc]at this
 have l1:Below d w w1:=by rw[<-H,<-i];exact((K2 _ _).alloc (K5 _) _).alloc (by simp) _
 have L1:=hid l1;have aL:=hid ah;have HT:Hid (∀W,Below d w W->UT W):=hid (fun W f=>UT.stays _ _ hUT (by rw[i];exact f));have HI:Hid (∀W,Below d w W->IAt W W.heap.size A vs is):=hid (fun W f=>by rw[<-i]at f;exact(h.below f).more f.size);have C:Hid (∀W,Below d w W->IAt W W.heap.size A2 us ws):=hid (fun W f=>by rw[<-i]at f;exact(h2.below f).more f.size);have F:Hid (∀W,Below d w W->Calls prog 5 #[] W fun e w'=>e=.returned (.bool true)/\Below W.heap.size W w'):=hid (fun W f=>zsi W (HT.out W f));have HF:=hid (zsk A c root vs is hz w1 (HI.out w1 l1));have ai:Hid (∀W,Below d w W->Calls prog 4 #[.agg #[.slice A2 ws.length c2,.int .i64 rw']] W fun e w'=>e=.returned (.bool (Q2 ws))/\Below W.heap.size W w'):=hid (fun W f=>zsk A2 c2 rw' us ws hz2 W (C.out W f));obtain⟨D,I⟩:=cells2 ah.b0;have z:=hid (fun hf:Q2 is=true=>And.intro (zr7 hf) (zr8 hf));have k:=hid (fun hf:Q2 ws=true=>And.intro (zr7 hf) (zr8 hf));have HZ:=hid (And.intro hz hz2);have a:=hid i;obtain⟨aH,O⟩:=ex (Q2 is)
 obtain⟨am,p⟩:=ex (Q2 ws)
 rw[O]at HF z;rw[p]at ai k;clear O p h h2 hz hz2 hUT ah l1;go_enter func3,ntmps3;go_upto_region 1 with fail;(try rw[H]);(try rw[i]);clear H i;go_wp2_with fail;refine HF.out.mono ?_;rintro e w2 ⟨rfl,ab⟩;have L2:Hid (Below d w w2):=hid (zas a.out L1.out ab);have aA:=hid (aL.out.later ab);clear ab D I HF;cases aH with
 |false=>
  go_wp2_with fail;refine(F.out w2 L2.out).mono ?_;rintro e w3 ⟨rfl,o⟩;have L3:Hid (Below d w w3):=hid (zas a.out L2.out o);clear o;go_wp2;go_ret;exact⟨rfl,by rw[a.out];exact L3.out⟩
 |true=>
  obtain⟨D,I⟩:=cells2 aA.out.b1;go_wp2_with fail;refine(ai.out w2 L2.out).mono ?_;rintro e w3 ⟨rfl,o⟩;have L3:Hid (Below d w w3):=hid (zas a.out L2.out o);have aj:=hid (aA.out.later o);clear o D I ai;cases am with
  |false=>
   go_wp2_with fail;refine(F.out w3 L3.out).mono ?_;rintro e w4 ⟨rfl,m⟩;have L4:Hid (Below d w w4):=hid (zas a.out L3.out m);clear m;go_wp2;go_ret;exact⟨rfl,by rw[a.out];exact L4.out⟩
  |true=>
   have j:is.length<=40/\ws.length<=40:=⟨(z.out (by simp)).1,(k.out (by simp)).1⟩
   have X:Hid (∀x∈is++ws,x.text.length<=1000/\x.keys.length<=1000/\x.items.length<=1000):=hid (fun x hx=>by
    rcases List.mem_append.1 hx with h|h
    .have:=(z.out (by simp)).2 x h;omega
    .have:=(k.out (by simp)).2 x h;omega)
   have HP:Hid (∀(q:Int) (L:List Gr.Ni) (R:Int) (no:Nat),replL is root q ws rw'=((L,R),no)->∀W,Below d w W->Calls prog 6 #[.agg #[.slice A is.length c,.int .i64 root],.int .i64 q,.agg #[.slice A2 ws.length c2,.int .i64 rw']] W fun e w'=>Below W.heap.size W w'/\∃A3 c3 vs3,e=.returned (.tuple #[.agg #[.slice A3 L.length c3,.int .i64 R],.int .i64 (no:Nat)])/\Hid (∀W',Below w'.heap.size w' W'->IAt W' W'.heap.size A3 vs3 L)):=hid (fun q L R no he W f=>by
    have:=zs0 A A2 c c2 root q rw' vs us is ws j X.out W (HT.out W f) (HI.out W f) (C.out W f);rw[he]at this;refine this.mono ?_;rintro e w' ⟨hb,A3,c3,vs3,rfl,hi⟩;exact⟨hb,A3,c3,vs3,rfl,hid (fun W' y=>hi W' (K3 y) (K3 y))⟩)
   have HR:Hid (∀(q:Int) (L:List Gr.Ni) (R:Int) (no:Nat),replL is root q ws rw'=((L,R),no)->∀W,Below d w W->Calls prog 7 #[.agg #[.slice A is.length c,.int .i64 root],.int .i64 q,.agg #[.slice A2 ws.length c2,.int .i64 rw']] W fun e w'=>Below W.heap.size W w'/\∃A3 c3 vs3,e=.returned (.tuple #[.agg #[.slice A3 L.length c3,.int .i64 R],.int .i64 (no:Nat)])/\Hid (∀W',Below w'.heap.size w' W'->IAt W' W'.heap.size A3 vs3 L)):=hid (fun q L R no he W f=>by
    have:=zs3 A A2 c c2 root q rw' vs us is ws j X.out W (HI.out W f) (C.out W f);rw[he]at this;refine this.mono ?_;rintro e w' ⟨hb,A3,c3,vs3,rfl,hi⟩;exact⟨hb,A3,c3,vs3,rfl,hid (fun W' y=>hi W' (K3 y) (K3 y))⟩)
   have ae:=zve (is:=is) (ws:=ws) (root:=root) (node:=node) (rw':=rw') j X.out;obtain⟨L,R,no,hs⟩:∃L R no,replL is root node ws rw'=((L,R),no):=⟨_,_,_,rfl⟩
   rw[hs]at ae;have ak:=hid ae;have HS:=hid hs;obtain⟨l,R2,f2,T⟩:∃l R2 f2,replL is root root ws rw'=((l,R2),f2):=⟨_,_,_,rfl⟩
   have aG:=hid T;have aE:=hid (fun h:f2=0=>zoi T h);obtain⟨N,hN⟩:=ex L.length
   obtain⟨N2,r⟩:=ex l.length
   have E:=hid (And.intro hN r);have b:=HP.out node L R no HS.out w3 L3.out;rw[hN]at b;have an:=hid b;obtain⟨D,I⟩:=cells2 aj.out.b0;obtain⟨q2,q3⟩:=cells2 aj.out.b1;clear hs ae T b hN r z k j;go_wp2_with fail;refine an.out.mono ?_;rintro e w4 ⟨m,A3,c3,vs3,rfl,al⟩;have L4:Hid (Below d w w4):=hid (zas a.out L3.out m);have aI:=hid (aj.out.later m);clear m D I q2 q3 an;go_upto_region 4 with fail;obtain⟨ga,ac⟩:=ex w4.heap.size
   obtain⟨w5,U⟩:=ex (w4.alloc (.cells #[.slice A3 N c3,.int .i64 R] 24))
   obtain⟨b5,l5⟩:=zk5 ac U;have L5:Hid (Below d w w5):=hid (zas a.out L4.out l5);have s:=hid (And.intro (aI.out.later l5) b5);have az:Hid (∀W',Below w5.heap.size w5 W'->IAt W' W'.heap.size A3 vs3 L):=hid (fun W' y=>al.out W' (l5.trans (y.mono l5.size)));have b:=HR.out node L R no HS.out w5 L5.out;rw[E.out.1]at b;have aC:=hid b;obtain⟨D,I⟩:=cells2 s.out.1.b0;obtain⟨q2,q3⟩:=cells2 s.out.1.b1;(try rw[U]);(try rw[ac]);clear U ac l5 b5 al b;go_wp2_with fail;refine aC.out.mono ?_;rintro e w6 ⟨n,A4,c4,ar,rfl,aw⟩;have L6:Hid (Below d w w6):=hid (zas a.out L5.out n);have J:=hid (And.intro (s.out.1.later n) (s.out.2.below n s.out.2.lt));have aq:Hid (∀W',Below w6.heap.size w6 W'->IAt W' W'.heap.size A3 vs3 L/\IAt W' W'.heap.size A4 ar L):=hid (fun W' y=>⟨az.out W' (n.trans (y.mono n.size)),aw.out W' y⟩);clear n D I q2 q3 aC az aw;go_upto_region 5 with fail;obtain⟨gc,S⟩:=ex w6.heap.size
   obtain⟨w7,aa⟩:=ex (w6.alloc (.cells #[.slice A4 N c4,.int .i64 R] 24))
   obtain⟨b7,l7⟩:=zk5 S aa;have L7:Hid (Below d w w7):=hid (zas a.out L6.out l7);have aM:=hid (J.out.1.later l7);have G:=hid (aq.out w7 l7);obtain⟨r0,r1⟩:=cells2 (J.out.2.below l7 J.out.2.lt);obtain⟨r2,r3⟩:=cells2 b7;have Q:=zsj A3 A4 c3 c4 R (no:Nat) vs3 ar L ak.out.1 w7 G.out.1 G.out.2 (fun h=>ak.out.2 (by omega) A3 c3 vs3 w7 (HT.out w7 L7.out) G.out.1);rw[E.out.1]at Q;have aB:=hid Q;(try rw[aa]);(try rw[S]);clear aa S l7 b7 Q aq;go_wp2_with fail;refine aB.out.mono ?_;rintro e w8 ⟨rfl,ag⟩;have L8:Hid (Below d w w8):=hid (zas a.out L7.out ag);have af:=hid (aM.out.later ag);clear ag r0 r1 r2 r3 aB G J;have htt:(!true)=false:=rfl;have b:=HP.out root l R2 f2 aG.out w8 L8.out;rw[E.out.2]at b;have au:=hid b;obtain⟨D,I⟩:=cells2 af.out.b0;obtain⟨q2,q3⟩:=cells2 af.out.b1;clear b;go_wp2_with fail;refine au.out.mono ?_;rintro e w9 ⟨ad,A5,c5,aN,rfl,ao⟩;have L9:Hid (Below d w w9):=hid (zas a.out L8.out ad);have aJ:=hid (af.out.later ad);clear ad D I q2 q3 au;go_upto_region 8 with fail;obtain⟨gd,Z⟩:=ex w9.heap.size
   obtain⟨u,t⟩:=ex (w9.alloc (.cells #[.slice A5 N2 c5,.int .i64 R2] 24))
   obtain⟨av,B⟩:=zk5 Z t;have K:Hid (Below d w u):=hid (zas a.out L9.out B);have M:=hid (And.intro (aJ.out.later B) av);have ay:=hid (ao.out u B);(try rw[t]);(try rw[Z]);clear t Z B av ao;by_cases h0:f2=0
   .obtain⟨aD,aO⟩:=aE.out h0;subst h0;subst aD;subst aO;have r:l.length=N2:=E.out.2;have v:=zgw A5 A2 c5 c2 R2 aN us l HZ.out.2 u ay.out (C.out u K.out);rw[r]at v;have aF:=hid v;have aK:(((0:Nat):Int)==0)=true:=rfl;obtain⟨r0,r1⟩:=cells2 M.out.2;obtain⟨r2,r3⟩:=cells2 M.out.1.b1;rw[r]at r2;clear v;go_wp2_with fail;refine aF.out.mono ?_;rintro e ap ⟨rfl,P⟩;have ax:Hid (Below d w ap):=hid (zas a.out K.out P);clear P r0 r1 r2 r3;go_wp2_with fail;refine(F.out ap ax.out).mono ?_;rintro e Y ⟨rfl,g⟩;have V:Hid (Below d w Y):=hid (zas a.out ax.out g);clear g;go_wp2;go_ret;exact⟨rfl,by rw[a.out];exact V.out⟩
   .have aK:((f2:Int)==0)=false:=by rw[qqq];omega
    clear h0;go_wp2_with fail;refine(F.out u K.out).mono ?_;rintro e Y ⟨rfl,g⟩;have V:Hid (Below d w Y):=hid (zas a.out K.out g);clear g;go_wp2;go_ret;exact⟨rfl,by rw[a.out];exact V.out⟩
end Go.Proofs.YtpgmfihonmoliabGreatDoor

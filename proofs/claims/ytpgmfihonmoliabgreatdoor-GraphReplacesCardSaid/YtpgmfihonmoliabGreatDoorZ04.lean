import Derived.Test.YtpgmfihonmoliabGreatDoorZ03
import Derived.Lib.AtoiBound
open _root_.Array renaming getElem?_eq_getElem->Y5,replicate->U0,getElem_modify->V8
open _root_.Go.RowKit.Below renaming refl->K4
open _root_.Go.Proofs.YtpgmfihonmoliabGreatDoor.Blk renaming new->K8
open _root_.Bool renaming and_assoc->Y2,true_and->U9,eq_iff_iff->W2,false_or->W8,and_true->W9,true_or->D2
open _root_.Go.Proofs.YtpgmfihonmoliabGreatDoor.Calls renaming grow->Q5,late->U5
open _root_.Go renaming bodyPost_ret->D3,results_cell_tmp->D4
open _root_.Go.Proofs.YtpgmfihonmoliabGreatDoor.Gr renaming Str->K7,succ->Q8,Nd->X0,text->X1,pd->V7
open _root_.Go.Proofs.YtpgmfihonmoliabGreatDoor.KB renaming refl->U7
open _root_.Go.Lib renaming indexByte->X3,atoiAll->U4,trimPrefix->U6,atoiAll_short->Z6,atoi->W7
open _root_.List renaming getElem_mem->K0,getD_eq_getElem?_getD->K1,getElem?_eq_getElem->K3,mem_append_right->K5,mem_append_left->K6,getElem_append_left->K9,replicate->Q1,take_succ_eq_append_getElem->Q2,getElem_set_ne->Q3,take_length->Q4,getElem_cons_zero->Q6,getElem_cons_succ->Y1,range->Y3,getElem_toArray->Y4,foldl_append->Y6,length_map->Y7,any_append->Y8,all_append->Y9,length_append->X2,all_eq_false->X4,length_cons->X7,getElem_zip->X8,range_succ->U1,mem_append->U2,length_nil->U3,map_cons->U8,getElem?_replicate->V0,take_of_length_le->V1,mem_map->V2,length_filter_le->V3,getElem_set_self->V4,getElem?_eq_none->V5,countP_le_length->V6,length_take_le->V9,getElem_of_mem->Z0,set_cons_zero->Z1,set_cons_succ->Z2,getElem_map->Z3,any_eq_true->Z4,all_eq_true->Z5,mem_filter->Z8,map_append->Z9,length_set->W0,foldl_cons->W1,mem_range->W3,foldl_nil->W4,all_cons->W6,map_nil->D0,all_nil->D1
open _root_.Nat renaming le_refl->K2,le_of_lt->Q0,le_trans->Q7,succ_le_of_lt->X5,lt_succ_self->X9,le_of_not_lt->Z7,mul_le_mul->W5
open _root_.Go.Proofs.YtpgmfihonmoliabGreatDoor.RowAt renaming ofBlk->X6
open _root_.Go.Proofs.YtpgmfihonmoliabGreatDoor.UT renaming stays->Y0
open _root_.Go.World renaming size_alloc->Q9
namespace Go.Proofs.YtpgmfihonmoliabGreatDoor
open Gr
open _root_.Go.Proofs.Tryz
open _root_.Go.Lib (hid)
set_option maxRecDepth 100000
set_option maxHeartbeats 16000000
open Go.RowKit
structure DepF (w:World) (gb rC rB:Nat) (A Az:Option Addr) (c:Nat) (root:Int) (vs:List NV) (ns:List X0) (inn:List Int) (sizes:List Nat):Prop where
 bg:Blk w gb 24 #[.slice A ns.length c,.int .i64 root]
 lg:gb<rB
 bc:Blk w rC 3 (jcells inn)
 lc:rC<rB
 rz:RowAt intL w rB Az sizes
 at_:GAt w rB A vs ns
theorem DepF.below {w w':World} {gb rC rB:Nat} {A Az:Option Addr} {c:Nat} {root:Int} {vs:List NV} {ns:List X0} {inn:List Int} {sizes:List Nat} (h:DepF w gb rC rB A Az c root vs ns inn sizes) (hb:Below rB w w'):DepF w' gb rC rB A Az c root vs ns inn sizes:=
 ⟨h.bg.below hb h.lg,h.lg,h.bc.below hb h.lc,h.lc,h.rz.below hb,h.at_.below hb⟩
theorem zwi (t:Gr.TS) (v:Nat):t.cn v=t.inn.getD v (-1):=rfl
theorem zii (A:Option Addr) (c root:Nat) (vs:List NV) (ns:List X0) (hr:Refs ns) (hl:ns.length<=1073741823) (hks:∀n∈ns,n.keys.length<=1073741823/\n.items.length<=1073741823) (hroot:root<ns.length)
 (hall:∀v,v<ns.length->Gr.Reach (Q8 ns) root v) (w:World) (h:GAt w w.heap.size A vs ns):
 Calls prog 28 #[.agg #[.slice A ns.length c,.int .i64 root]] w fun e w'=>e=.returned (.tuple #[.int .i64 (depth ns root).1,.bool (depth ns root).2])/\Below w.heap.size w w':=by
 obtain⟨hC,ax,al⟩:=zk9 hr.succ root hroot hall;have HC:=hid hC;have H:=hid h;have aV:=hid (fun W hW=>zf8 A c root vs ns hr hl hks hroot W (h.below hW|>.more hW.size));obtain⟨t,ht⟩:=ex (tcomp (Q8 ns) ns.length root)
 rw[ht]at ax al HC;have HT:=hid ht;obtain⟨m,hm⟩:=ex t.sizes.length
 have HM:=hid hm;rw[hm]at al;have hml:m<=1073741823:=by omega
 have bL:=fun W=>za7 m (by omega) W
 have br:=fun W=>zj7 m (by omega) W
 have hrI:(root:Int)<(ns.length:Int):=by omega
 have aP:=hid ax;have HCZ:=hid al;clear h hC ht hm ax al;go_enter func28,ntmps28;go_upto_region 1 with fail;obtain⟨w1,ap⟩:=ex (w.alloc (.cells #[.slice A ns.length c,.int .i64 root] 24))
 (try rw[ap]);have l1:Below w.heap.size w w1:=by rw[<-ap];exact(K4 _ _).alloc (K2 _) _
 have b1:Blk w1 w.heap.size 24 #[.slice A ns.length c,.int .i64 root]:=by rw[<-ap];exact K8 _ _ _
 obtain⟨gb,am⟩:=ex w.heap.size
 have az:=hid am;have L1:=hid l1;(try rw[am]);rw[am]at b1;have aF:=hid b1;obtain⟨g0,g1⟩:=cells2 b1;have bC:=hid (aV.out w1 l1);clear ap am l1 b1;go_wp2_with fail;refine bC.out.mono ?_;rintro e w2 ⟨rC,Az,cz,rfl,h1,h2,h3,h4⟩;rw[HT.out]at h3 h4 ⊢;rw[HM.out]at h4 ⊢;obtain⟨Az',cz',bd,bf⟩:=h4.form;rw[HM.out]at bd;injection bd with e1 _ e2
 subst e1;subst e2;obtain⟨f,R⟩:=ex w2.heap.size
 have aL:gb<f:=by have:=h2.size;have:=aF.out.lt;omega
 have bP:Hid (DepF w2 gb rC f A Az c root vs ns t.inn t.sizes):=hid ⟨aF.out.below h2 aF.out.lt,aL,h3,by have:=h3.lt;omega,by rw[<-R];exact bf,(H.out.below (L1.out.trans (h2.mono (by have:=L1.out.size;omega)))).more (by have:=az.out;omega)⟩;have bx:Hid (Below w.heap.size w w2):=hid (L1.out.trans (h2.mono L1.out.size));clear h1 h2 h3 h4 g0 g1 bf;go_upto_region 5 with fail;obtain⟨w4,P⟩:=ex ((w2.alloc (.cells (icells (Q1 m 0)) 3)).alloc (.cells (U0 m (Value.slice none 0 0)) 35))
 have l4:Below f w2 w4:=by rw[<-P,<-R];exact((K4 _ _).alloc (K2 _) _).alloc (by simp) _
 have ai:w4.heap.size=f+1+1:=by rw[<-P];simp[R]
 have b4:Blk w4 f 3 (icells (Q1 m 0)):=by rw[<-P,<-R];exact(K8 _ _ _).alloc _
 have m4:Blk w4 (f+1) 35 (U0 m (Value.slice none 0 0)):=by
  rw[<-P,<-R];have:=K8 (w2.alloc (.cells (icells (Q1 m 0)) 3)) 35 (U0 m (Value.slice none 0 0));rw[Q9]at this;exact this
 obtain⟨E,aN⟩:=ex (f+1)
 rw[aN]at m4 ai;obtain⟨D,hD⟩:=ex (E+1)
 rw[hD]at ai;have g:Hid (gb<f/\f<E/\E<D/\w4.heap.size=D/\w.heap.size=gb):=hid ⟨aL,by omega,by omega,ai,az.out⟩;have bn:=hid (bP.out.below l4);have bK:Hid (Below w.heap.size w w4):=hid (bx.out.trans (l4.mono (by rw[az.out];omega)));have bB:=hid b4;have bQ:Hid (Mems w4 D E (Q1 m (.slice none 0 0)) (Q1 m [])):=hid (Mems.start (by simpa using m4) (by omega) (by omega));rw[aN,P];have aW:=fun v (hv:v<ns.length)=>HC.out.rng v hv
 have aG:=hid aW;clear P R l4 ai b4 m4 aN hD aL aW bL br;go_upto_region 6 with fail;go_loopw [31] (fun s31 wr=>∃i:Nat,i<=ns.length/\s31=.int .i64 i/\Hid (KB E w4 wr/\∃mv,Mems wr D E mv (memsL t.cn i m))) (fun s31 _=>ns.length-(intOf s31).toNat)
 case atStart=>exact⟨0,by omega,rfl,hid ⟨U7 _ _,_,by rw[zmo];exact bQ.out⟩⟩
 case round=>
  obtain⟨i,hi,rfl,I⟩:=hrel;by_cases hlt:i<ns.length
  .have O:(i:Int)<(ns.length:Int):=by omega
   obtain⟨Y,mv,C⟩:=I.out;obtain⟨bu,a1⟩:=aG.out i hlt;obtain⟨u,an⟩:∃u:Nat,t.cn i=(u:Int):=⟨(t.cn i).toNat,by omega⟩
   rw[an,HM.out]at a1;have au:u<m:=by omega
   have hccI:(u:Int)<(m:Int):=by omega
   have l:u<mv.length:=by rw[C.len,zcj];exact au
   have y0:wr.cell? ⟨rC,i,none⟩=some (.int .i64 (u:Int)):=by
    have:=((bn.out.below (Y.below (by have:=g.out;omega) (by have:=g.out;omega))).bc).cell i;rw[this,zb6 (by rw[aP.out];exact hlt),<-zwi,an]
   have aS:u<(memsL t.cn i m).length:=by rw[zcj];exact au
   obtain⟨Ac,ae,bD,z0,bJ⟩:=C.at_ aS;have aa:=C.own u l aS;have o:mv[u]=.slice Ac (memsL t.cn i m)[u].length ae:=by
    have h1:=C.blk.cell u;rw[z0]at h1;simpa[K3 l]using h1.symm
   rw[zck]at z0 aa o;clear bJ bD aS;have av:=ze7 t.cn i u;obtain⟨L,hL⟩:=ex (members t.cn i u)
   rw[hL]at z0 aa av o;rw[o]at aa;have G:Hid (memsL t.cn (i+1) m=(memsL t.cn i m).set u (L++[i])):=hid (by rw[zmp _ _ _ _ an,hL]);have zf:∀j,wr.frozen? ⟨E,j,none⟩=false:=C.blk.frozen;have bH:=hid aa;have bN:Hid (∃l:u<mv.length,KB E w4 wr/\Mems wr D E mv (memsL t.cn i m)/\mv[u]=.slice Ac L.length ae):=hid ⟨l,Y,C,o⟩;have aH:Hid (D<=wr.heap.size/\L.length+1<=1073741823):=hid ⟨C.hd,by omega⟩;clear Y C bu a1 an l aa o av hL;go_upto_region 8 with fail;clear y0;go_wp2_with (at_builtin;go_must (refine zab _ rfl (.tmp 41) (.tmp 43) 35 3 8 rfl intT D (.slice Ac L.length ae) L rfl (bH.out.alloc _) _ _ 1 [i] rfl (RowAt.lit1 _ _ rfl _ ?_) ?_ ?_ ?_))
   any_goals (first|rfl| (have:=aH.out;omega)| (have:=aH.out;simp;omega)| (rw[Q9];have:=aH.out;omega))
   intro v' w3 ac hg aK;obtain⟨l,Y,C,o⟩:=bN.out;have ag:=C.alloc (.cells #[.int .i64 i] 3);rw[<-o]at hg aK;have bo:=ag.grown l ac hg (by rw[Q9];exact aK);have be:=ag.grownKB (Y.alloc _) g.out.2.2.2.1 l v' hg;have aM:Blk w3 E 35 mv.toArray:=ag.blk.grown hg (fun e=>by have:=((ag.own u l (by rw[zcj];omega)).lt E e.symm).1;have:=g.out;omega);have bG:w3.cell? ⟨E,u,none⟩=some mv[u]:=by rw[aM.cell];simp[K3 l]
   rw[o]at bG;have pf3:∀j,w3.frozen? ⟨E,j,none⟩=false:=aM.frozen;obtain⟨g3,aw,a7,_⟩:=ac.shape (by simp);obtain⟨n3,a4⟩:=ex ((L++[i]).length)
   rw[a4]at a7;subst a7;have s:Hid (KB E w4 (w3.setCell ⟨E,u,none⟩ (.slice (some ⟨g3,0,none⟩) n3 aw))/\∃mv,Mems (w3.setCell ⟨E,u,none⟩ (.slice (some ⟨g3,0,none⟩) n3 aw)) D E mv (memsL t.cn (i+1) m)):=hid ⟨be,_,by rw[G.out];exact bo⟩;clear o Y C ag ac hg aK bo be aM a4 z0 zf l;go_wp2;go_roundw
   case rel=>exact⟨i+1,by omega,by go_num,s⟩
   case measure=>simp[intOf];omega
  .have O:¬((i:Int)<(ns.length:Int)):=by omega
   have aY:i=ns.length:=by omega
   obtain⟨Y,mv,C⟩:=I.out;rw[aY]at C;obtain⟨S,bw⟩:∃S,S=wr:=⟨_,rfl⟩
   subst bw;have bm:Hid (Mems S D E mv (memsL t.cn ns.length m)):=hid C;have ah:Hid (DepF S gb rC f A Az c root vs ns t.inn t.sizes):=hid (bn.out.below (Y.below (by have:=g.out;omega) (by have:=g.out;omega)));have G:Hid (Below w.heap.size w S/\D<=S.heap.size):=hid ⟨bK.out.trans (Y.below (by have:=g.out;omega) (by have:=g.out;omega)),C.hd⟩;have bR:Hid (Blk S f 3 (icells (Q1 m 0))):=hid (Y.blk bB.out (by have:=g.out;omega));clear Y C I aY hi hlt;go_upto_region 11 with fail;clear O;go_loopw [6,49] (fun s6 s49 wr=>∃(k:Nat) (p:List Nat×Bool),k<=m/\s49=.int .i64 k/\s6=.bool p.2/\Hid (p=(Y3 k).foldl (dcomp (Q8 ns) t.cn ns.length t.sizes) (Q1 m 0,true)/\KB f S wr/\Blk wr f 3 (icells p.1))) (fun _ s49 _=>m-(intOf s49).toNat)
   case atStart=>exact⟨0,(Q1 m 0,true),by omega,rfl,rfl,hid ⟨rfl,U7 _ _,bR.out⟩⟩
   case round=>
    obtain⟨k,p,Y,rfl,rfl,I⟩:=hrel;obtain⟨wq,bA⟩:∃wq,wq=wr:=⟨_,rfl⟩
    subst bA;by_cases hlt:k<m
    .have O:(k:Int)<(m:Int):=by omega
     have C:=bm.out.kb I.out.2.1 (by have:=g.out;omega) (by have:=g.out;omega);obtain⟨Ak,capk,l,z0,bs⟩:=C.at_ (c:=k) (by rw[zcj];exact hlt);clear bs;rw[zck]at z0 l;have a8:Hid (∀W,KB f S W->RowAt intL W W.heap.size Ak (members t.cn ns.length k)):=hid (fun W hW=>by
      have:=(bm.out.kb hW (by have:=g.out;omega) (by have:=g.out;omega)).row (c:=k) (by rw[zcj];exact hlt) l;rwa[zck]at this)
     clear l;have bM:=ze7 t.cn ns.length k;have ba:Hid (∀x∈members t.cn ns.length k,x<ns.length):=hid (zmq t.cn ns.length k);have bj:Hid (dcomp (Q8 ns) t.cn ns.length t.sizes p k=((((members t.cn ns.length k).foldl (fun p i=>(Q8 ns i).foldl (dstep t.cn k) p) p).1.set k (((members t.cn ns.length k).foldl (fun p i=>(Q8 ns i).foldl (dstep t.cn k) p) p).1.getD k 0+t.sizes.getD k 0)),((members t.cn ns.length k).foldl (fun p i=>(Q8 ns i).foldl (dstep t.cn k) p) p).2)):=hid rfl;obtain⟨Lk,bb⟩:=ex (members t.cn ns.length k)
     rw[bb]at z0 a8 bM ba bj;have aB:∀j,t.sizes.getD j 0<=ns.length:=fun j=>by
      by_cases hj:j<t.sizes.length
      .rw[HC.out.cnt j hj];exact Q7 V6 (by simp)
      .simp[K1,V5 (Z7 hj)]
     have bv:=hid aB;have aj:p.1.length=m:=by rw[I.out.1,zgj];simp
     have T:Sml (k*ns.length) p:=by
      rw[I.out.1];refine Sml.comps (fun j=>?_) aB k;simp[K1,V0];split<;>simp
     obtain⟨M,aC⟩:=ex (k*ns.length)
     rw[aC]at T;have aR:Hid (M<=1152921504606846976):=hid (by rw[<-aC];exact Q7 (W5 (show k<=1073741824 by omega) (show ns.length<=1073741824 by omega)) (by decide));have bi:=hid aj;have aZ:=hid T;clear C bb aB aj T aC;go_upto_region 14 with fail;clear z0;go_loopw [6,57] (fun s6 s57 wr=>∃(j:Nat) (q:List Nat×Bool),j<=Lk.length/\s57=.int .i64 j/\s6=.bool q.2/\Hid (q=(Lk.take j).foldl (fun p i=>(Q8 ns i).foldl (dstep t.cn k) p) p/\KB f S wr/\Blk wr f 3 (icells q.1))) (fun _ s57 _=>Lk.length-(intOf s57).toNat)
     case atStart=>exact⟨0,p,by omega,rfl,rfl,hid ⟨rfl,I.out.2.1,I.out.2.2⟩⟩
     case round=>
      obtain⟨j,q,hj,rfl,rfl,J⟩:=hrel;obtain⟨V,bU⟩:∃V,V=wr:=⟨_,rfl⟩
      subst bU;by_cases hjl:j<Lk.length
      .have a2:(j:Int)<(Lk.length:Int):=by omega
       obtain⟨i,hi⟩:=ex (Lk[j])
       have aA:i<ns.length:=by rw[<-hi];exact ba.out _ (K0 hjl)
       obtain⟨adk,rfl,hadk,y0⟩:=zaf (a8.out _ J.out.2.1) hjl;rw[hi]at y0;have z:=ah.out.below (J.out.2.1.below (B:=f) (K2 _) (by have:=G.out;have:=g.out;omega));have g0:V.cell? ⟨gb,0,none⟩=some (.slice A ns.length c):=z.bg.cell 0;obtain⟨ad,ks,is,rfl,hN⟩:=z.at_.node aA;obtain⟨ka,kn,kc⟩:=ks;obtain⟨X,bO,ic⟩:=is;have aT:ns[i]∈ns:=K0 aA;obtain⟨bl,a5⟩:=hks _ aT;have aI:Q8 ns i=ns[i].keys++ns[i].items:=by unfold Q8;rw[K3 aA]
       have ay:Hid (∀x∈ns[i].keys++ns[i].items,x<ns.length):=hid (hr _ aT);obtain⟨n,hn⟩:=ex (ns[i])
       rw[hn]at hN bl a5 aI ay;obtain rfl:kn=n.keys.length:=hN.kn;obtain rfl:bO=n.items.length:=hN.inn;have x3:=hN.c3;have x4:=hN.c4;have bT:Hid ((Lk.take (j+1)).foldl (fun p i=>(Q8 ns i).foldl (dstep t.cn k) p) p=(n.keys++n.items).foldl (dstep t.cn k) q):=hid (by
        rw[zaj _ _ hjl,Y6,<-J.out.1,hi,W1,W4,aI])
       have a9:Hid (RowAt intL V f ka n.keys/\RowAt intL V f X n.items):=hid ⟨hN.keys,hN.items⟩;have hinI:(i:Int)<(ns.length:Int):=by omega
       clear z hN aT aI hn hi;go_upto_region 16 with fail;go_region_held3 (fun w'=>w'.cell? ⟨gb,0,none⟩=some (.slice (some ad) ns.length c)/\w'.cell? {block:=(ad.add (i*5)).block,off:=(ad.add (i*5)).off+3}=some (.slice ka n.keys.length kc)/\w'.cell? {block:=(ad.add (i*5)).block,off:=(ad.add (i*5)).off+4}=some (.slice X n.items.length ic)) (go_keep) (fail);go_upto_region 17 with fail;clear x3 x4 g0 y0;obtain⟨N,ab⟩:=ex ((V.alloc (.cells #[.slice ka n.keys.length kc,.slice X n.items.length ic] 35)).drew)
       obtain⟨lb,aJ⟩:=ex V.heap.size
       have b5:Blk N lb 35 #[.slice ka n.keys.length kc,.slice X n.items.length ic]:=by rw[<-ab,<-aJ];exact(K8 _ _ _).drew
       have k5:KB f V N:=by rw[<-ab];exact((U7 _ _).alloc _).drewN 1
       have aU:Hid (f<lb/\f<=V.heap.size):=hid ⟨by have:=J.out.2.2.lt;omega,Q0 J.out.2.2.lt⟩;have ak:Hid (KB f S N/\Blk N f 3 (icells q.1)/\Blk N lb 35 #[.slice ka n.keys.length kc,.slice X n.items.length ic]):=hid ⟨J.out.2.1.trans k5,by rw[<-ab];exact(J.out.2.2.alloc _).drew,b5⟩;have ar:Hid (RowAt intL N f ka n.keys/\RowAt intL N f X n.items):=hid ⟨a9.out.1.below (k5.below (K2 _) aU.out.2),a9.out.2.below (k5.below (K2 _) aU.out.2)⟩;rw[ab,aJ];clear ab b5 k5 aJ;go_loopw [6,75] (fun s6 s75 wr=>∃(r:Nat) (q2:List Nat×Bool),r<=2/\s75=.int .i64 r/\s6=.bool q2.2/\Hid (q2=(if r=0 then[]else if r=1 then n.keys else n.keys++n.items).foldl (dstep t.cn k) q/\KB f N wr/\Blk wr f 3 (icells q2.1)/\Blk wr lb 35 #[.slice ka n.keys.length kc,.slice X n.items.length ic])) (fun _ s75 _=>2-(intOf s75).toNat)
       case atStart=>exact⟨0,q,by omega,rfl,rfl,hid ⟨rfl,U7 _ _,ak.out.2⟩⟩
       case round=>
        obtain⟨r,q2,hr2,rfl,rfl,HR⟩:=hrel;obtain⟨wx,bF⟩:∃wx,wx=wr:=⟨_,rfl⟩
        subst bF;by_cases hrl:r<2
        .have a6:(r:Int)<2:=by omega
         obtain⟨Ax,F,cx,e1,HX⟩:∃Ax F cx,wx.cell? ⟨lb,r,none⟩=some (.slice Ax (F:List Nat).length cx)/\Hid (RowAt intL N f Ax F/\(if r+1=0 then[]else if r+1=1 then n.keys else n.keys++n.items)=(if r=0 then[]else if r=1 then n.keys else n.keys++n.items)++F/\(∀x∈F,x<ns.length)/\F.length<=1073741823):=by
          obtain rfl|rfl:r=0\/r=1:=by omega
          .exact⟨ka,n.keys,kc,HR.out.2.2.2.cell 0,hid ⟨ar.out.1,by simp,fun x hx=>ay.out x (K6 _ hx),bl⟩⟩
          .exact⟨X,n.items,ic,HR.out.2.2.2.cell 1,hid ⟨ar.out.2,by simp,fun x hx=>ay.out x (K5 _ hx),a5⟩⟩
         have hxl:=HX.out.2.2.2;go_upto_region 20 with fail;clear e1;go_loopw [6,81] (fun s6 s81 wr=>∃(y:Nat) (q3:List Nat×Bool),y<=F.length/\s81=.int .i64 y/\s6=.bool q3.2/\Hid (q3=(F.take y).foldl (dstep t.cn k) q2/\KB f N wr/\Blk wr f 3 (icells q3.1)/\Blk wr lb 35 #[.slice ka n.keys.length kc,.slice X n.items.length ic])) (fun _ s81 _=>F.length-(intOf s81).toNat)
         case atStart=>exact⟨0,q2,by omega,rfl,rfl,hid ⟨rfl,HR.out.2⟩⟩
         case round=>
          obtain⟨y,q3,hy,rfl,rfl,U⟩:=hrel;by_cases hyl:y<F.length
          .have bk:(y:Int)<(F.length:Int):=by omega
           obtain⟨x,hx⟩:=ex (F[y])
           have aX:x<ns.length:=by rw[<-hx];exact HX.out.2.2.1 _ (K0 hyl)
           have K:Below f N wr:=U.out.2.1.below (K2 _) (Q0 ak.out.2.1.lt);obtain⟨adx,rfl,hadx,y0⟩:=zaf (HX.out.1.below K) hyl;rw[hx]at y0;obtain⟨ao,Q⟩:=aG.out x aX;obtain⟨d,Z⟩:∃d:Nat,t.cn x=(d:Int):=⟨(t.cn x).toNat,by omega⟩
           rw[Z,HM.out]at Q;have bE:(d:Int)<(m:Int):=by omega
           have aO:=(ah.out.below (ak.out.1.below (B:=f) (K2 _) (by have:=G.out;have:=g.out;omega))).below K;have r0:wr.cell? ⟨rC,x,none⟩=some (.int .i64 (d:Int)):=by
            rw[aO.bc.cell,zb6 (by rw[aP.out];exact aX),<-zwi,Z]
           have hxnI:(x:Int)<(ns.length:Int):=by omega
           have bp:Hid ((F.take (y+1)).foldl (dstep t.cn k) q2=dstep t.cn k q3 x):=hid (by rw[zaj _ _ hyl,Y6,<-U.out.1,hx];rfl);have hyb:y<=1073741823:=by omega
           by_cases hdk:d=k
           .have bh:((k:Int)==(k:Int))=true:=by simp
            rw[hdk]at r0;have s:Hid ((q3.1,false)=(F.take (y+1)).foldl (dstep t.cn k) q2/\KB f N wr/\Blk wr f 3 (icells q3.1)/\Blk wr lb 35 #[.slice ka n.keys.length kc,.slice X n.items.length ic]):=hid ⟨by rw[bp.out];unfold dstep;rw[if_pos (by rw[Z,hdk])],U.out.2⟩;clear aO K Z ao Q hx hdk;go_wp2;go_roundw
            case rel=>exact⟨y+1,(q3.1,false),by omega,by go_num,rfl,s⟩
            case measure=>simp[intOf];omega
           .have bh:((d:Int)==(k:Int))=false:=by simp;omega
            have a3:¬(d:Int)=(k:Int):=by omega
            obtain⟨a,ha⟩:=ex (q3.1.getD k 0)
            obtain⟨b,hb⟩:=ex (q3.1.getD d 0)
            have bI:q3.1.length=m:=by rw[U.out.1,ze8,HR.out.1,ze8,J.out.1,zd0];exact bi.out
            have af:Sml M q3:=by rw[U.out.1];refine Sml.fold _ ?_;rw[HR.out.1];refine Sml.fold _ ?_;rw[J.out.1];exact Sml.foldM _ _ aZ.out
            have a0:a<=1152921504606846976:=by have:=af k;have:=aR.out;omega
            have bz:b<=1152921504606846976:=by have:=af d;have:=aR.out;omega
            have z1:wr.cell? ⟨f,k,none⟩=some (.int .i64 (a:Int)):=by rw[U.out.2.2.1.cell,zaa (by omega),ha]
            have z2:wr.cell? ⟨f,d,none⟩=some (.int .i64 (b:Int)):=by rw[U.out.2.2.1.cell,zaa (by omega),hb]
            have zf:∀j,wr.frozen? ⟨f,j,none⟩=false:=U.out.2.2.1.frozen;have s:∀v:Nat,v=max a b->Hid ((q3.1.set k v,q3.2)=(F.take (y+1)).foldl (dstep t.cn k) q2/\KB f N (wr.setCell ⟨f,k,none⟩ (.int .i64 (v:Int))).drew/\Blk (wr.setCell ⟨f,k,none⟩ (.int .i64 (v:Int))).drew f 3 (icells (q3.1.set k v))/\Blk (wr.setCell ⟨f,k,none⟩ (.int .i64 (v:Int))).drew lb 35 #[.slice ka n.keys.length kc,.slice X n.items.length ic]):=fun v hv=>hid ⟨by rw[bp.out];unfold dstep;rw[if_neg (by rw[Z];exact a3),Z,ha,show((d:Int)).toNat=d from by omega,hb,hv],(U.out.2.1.set _ _).drewN 1,by rw[<-zam];exact(U.out.2.2.1.set_ k _).drew,(U.out.2.2.2.far (by have:=aU.out;simp;omega) _).drew⟩
            have aQ:=hid s;clear aO K Z ao Q hx hdk s bI af ha hb;go_upto_region 24 with fail;by_cases hmx:a<b
            all_goals go_region
            all_goals go_wp2_with fail
            all_goals
             go_roundw
             case rel=>first| (rw[show max (a:Int) (b:Int)=((max a b:Nat):Int)from by omega];exact⟨y+1,(q3.1.set k (max a b),q3.2),by omega,by go_num,rfl,aQ.out (max a b) rfl⟩)|exact⟨y+1,(q3.1.set k a,q3.2),by omega,by go_num,rfl,aQ.out a (by omega)⟩|exact⟨y+1,(q3.1.set k b,q3.2),by omega,by go_num,rfl,aQ.out b (by omega)⟩
             case measure=>simp[intOf];omega
          .have bk:¬(y:Int)<(F.length:Int):=by omega
           have s:Hid (q3=(if r+1=0 then[]else if r+1=1 then n.keys else n.keys++n.items).foldl (dstep t.cn k) q/\KB f N wr/\Blk wr f 3 (icells q3.1)/\Blk wr lb 35 #[.slice ka n.keys.length kc,.slice X n.items.length ic]):=hid ⟨by
            rw[HX.out.2.1,Y6,<-HR.out.1];have:=U.out.1;rwa[show y=F.length from by omega,Q4]at this,U.out.2⟩
           go_wp2;go_roundw
           case rel=>exact⟨r+1,q3,by omega,by go_num,rfl,s⟩
           case measure=>simp[intOf];omega
        .have a6:¬(r:Int)<2:=by omega
         have s:Hid (q2=(Lk.take (j+1)).foldl (fun p i=>(Q8 ns i).foldl (dstep t.cn k) p) p/\KB f S wx/\Blk wx f 3 (icells q2.1)):=hid ⟨by
          have:=HR.out.1;rw[show r=2 from by omega]at this;rw[bT.out];exact this,ak.out.1.trans HR.out.2.1,HR.out.2.2.1⟩
         go_wp2;go_roundw
         case rel=>exact⟨j+1,q2,by omega,by go_num,rfl,s⟩
         case measure=>simp[intOf];omega
      .have a2:¬(j:Int)<(Lk.length:Int):=by omega
       obtain⟨a,ha⟩:=ex (q.1.getD k 0)
       obtain⟨b,hb⟩:=ex (t.sizes.getD k 0)
       have hq:q=Lk.foldl (fun p i=>(Q8 ns i).foldl (dstep t.cn k) p) p:=by
        have:=J.out.1;rwa[show j=Lk.length from by omega,Q4]at this
       have bt:q.1.length=m:=by rw[hq,zd0];exact bi.out
       have a0:a<=1152921504606846976:=by
        have h1:Sml M q:=by rw[hq];exact Sml.foldM _ _ aZ.out
        have:=h1 k;have:=aR.out;omega
       have bz:b<=1073741823:=by have:=bv.out k;omega
       have z:=ah.out.below (J.out.2.1.below (B:=f) (K2 _) (by have:=G.out;have:=g.out;omega));have aD:k<t.sizes.length:=by rw[HM.out];exact hlt
       have bq:t.sizes[k]=b:=by rw[<-hb];simp[K1,K3 aD]
       obtain⟨adz,rfl,hadz,z2⟩:=zaf z.rz aD;rw[bq]at z2;have z1:V.cell? ⟨f,k,none⟩=some (.int .i64 (a:Int)):=by rw[J.out.2.2.cell,zaa (by omega),ha]
       have zf:∀j,V.frozen? ⟨f,j,none⟩=false:=J.out.2.2.frozen;have s:Hid ((q.1.set k (a+b),q.2)=(Y3 (k+1)).foldl (dcomp (Q8 ns) t.cn ns.length t.sizes) (Q1 m 0,true)/\KB f S (V.setCell ⟨f,k,none⟩ (.int .i64 ((a:Int)+(b:Int)))).drew/\Blk (V.setCell ⟨f,k,none⟩ (.int .i64 ((a:Int)+(b:Int)))).drew f 3 (icells (q.1.set k (a+b)))):=hid ⟨by
        rw[U1,Y6,<-I.out.1,W1,W4,bj.out,<-hq,ha,hb],(J.out.2.1.set _ _).drewN 1,by
        rw[<-zam,show(((a+b:Nat)):Int)=(a:Int)+(b:Int)from by omega];exact(J.out.2.2.set_ k _).drew⟩
       clear ha hb hq bt z bq aD;go_upto_region 28 with fail;go_region
       all_goals go_wp2_with fail
       all_goals
        go_roundw
        case rel=>exact⟨k+1,(q.1.set k (a+b),q.2),by omega,by go_num,rfl,s⟩
        case measure=>simp[intOf];omega
    .have O:¬(k:Int)<(m:Int):=by omega
     have aE:k=m:=by omega
     have z:=ah.out.below (I.out.2.1.below (B:=f) (K2 _) (by have:=G.out;have:=g.out;omega));obtain⟨ao,Q⟩:=aG.out root hroot;obtain⟨d,Z⟩:∃d:Nat,t.cn root=(d:Int):=⟨(t.cn root).toNat,by omega⟩
     rw[Z,HM.out]at Q;have bE:(d:Int)<(m:Int):=by omega
     have r0:wq.cell? ⟨rC,root,none⟩=some (.int .i64 (d:Int)):=by
      rw[z.bc.cell,zb6 (by rw[aP.out];exact hroot),<-zwi,Z]
     have g1:wq.cell? ⟨gb,1,none⟩=some (.int .i64 root):=z.bg.cell 1;obtain⟨a,ha⟩:=ex (p.1.getD d 0)
     have aj:p.1.length=m:=by rw[I.out.1,zgj];simp
     have z0:wq.cell? ⟨f,d,none⟩=some (.int .i64 (a:Int)):=by rw[I.out.2.2.cell,zaa (by omega),ha]
     have T:Sml (m*ns.length) p:=by
      rw[I.out.1,<-aE];refine Sml.comps (fun j=>?_) (fun j=>?_) k
      .simp[K1,V0];split<;>simp
      .by_cases hj:j<t.sizes.length
       .rw[HC.out.cnt j hj];exact Q7 V6 (by simp)
       .simp[K1,V5 (Z7 hj)]
     have a0:a<=1152921504606846976:=by
      have:=T d;have h2:m*ns.length<=1152921504606846976:=Q7 (W5 (show m<=1073741824 by omega) (show ns.length<=1073741824 by omega)) (by decide);omega
     have aq:Hid ((depth ns root).1=(a:Int)-1/\(depth ns root).2=p.2):=hid (by
      have hp:p=dall (Q8 ns) t.cn ns.length t.sizes:=by rw[I.out.1,aE];unfold dall;rw[HM.out]
      unfold depth;simp only[HT.out];rw[<-hp,Z,<-ha];exact⟨rfl,rfl⟩)
     have bS:Hid (Below w.heap.size w wq):=hid (G.out.1.trans (I.out.2.1.below (by have:=g.out;omega) (by have:=g.out;have:=G.out;omega)));clear aE z ao Q Z ha aj T;go_wp2;go_ret2;rw[aq.out.1,aq.out.2];exact⟨rfl,bS.out⟩
namespace Gr
structure Ni where
 kind:Int
 text:Str
 ord:Bool
 keys:List Int
 items:List Int
def Ni.nd (x:Ni):Nd:=⟨x.kind,x.text,x.ord,x.keys.map Int.toNat,x.items.map Int.toNat⟩
def inR (n:Nat) (x:Int):Bool:=decide (0<=x) && decide (x<(n:Int))
def rng (n:Nat) (x:Ni):Bool:=(x.keys++x.items).all (inR n)
def indB (is:List Ni) (root:Int):Bool:=inR is.length root && is.all (rng is.length)
end Gr
open Go.RowKit
theorem zti (l:List Int) (h0:∀x∈l,0<=x):intL.all (l.map Int.toNat)=intI.all l:=by
 induction l with
 |nil=>rfl
 |cons x l ih=>
  have b:intI.all (x::l)=intI.enc x++intI.all l:=rfl;have c:intL.all (x.toNat::l.map Int.toNat)=intL.enc x.toNat++intL.all (l.map Int.toNat):=rfl;have hx:=h0 x (.head _);rw[U8,b,c,ih (fun y a=>h0 y (.tail _ a))];show[Value.int .i64 ((x.toNat:Nat):Int)]++_=[Value.int .i64 x]++_;rw[show((x.toNat:Nat):Int)=x from by omega]
theorem zlc {w:World} {B:Nat} {A:Option Addr} {l:List Int} (h:RowAt intI w B A l) (h0:∀x∈l,0<=x):RowAt intL w B A (l.map Int.toNat):=by
 unfold RowAt at h ⊢;rw[zti l h0,Y7];exact h
theorem ze9 {w:World} {B:Nat} {A:Option Addr} {l:List Int} {k:Nat} (h:RowAt intI w B A l) (hk:k<l.length):∃ad,A=some ad/\ad.block<B/\w.cell? (ad.add k)=some (.int .i64 l[k]):=by
 obtain⟨ad,a,c,b,_⟩:=h.get hk;refine⟨ad,a,c,?_⟩;have:=b (.int .i64 l[k]) rfl;rwa[show k*intI.sz=k from Nat.mul_one k]at this
structure IAt (w:World) (B:Nat) (A:Option Addr) (vs:List NV) (ns:List Gr.Ni):Prop where
 row:RowAt nodeL w B A vs
 len:vs.length=ns.length
 kind:∀j (h:j<vs.length) (h2:j<ns.length),vs[j].kind=ns[j].kind/\vs[j].text=ns[j].text/\vs[j].ord=ns[j].ord
 nums:∀j (h:j<vs.length) (h2:j<ns.length),RowAt intI w B vs[j].k.a ns[j].keys/\vs[j].k.n=ns[j].keys.length/\RowAt intI w B vs[j].i.a ns[j].items/\vs[j].i.n=ns[j].items.length
theorem IAt.below {w w':World} {B:Nat} {A:Option Addr} {vs:List NV} {ns:List Gr.Ni} (h:IAt w B A vs ns) (hb:Below B w w'):IAt w' B A vs ns:=
 ⟨h.row.below hb,h.len,h.kind,fun j f e=>let⟨a,b,c,d⟩:=h.nums j f e;⟨a.below hb,b,c.below hb,d⟩⟩
theorem IAt.more {w:World} {B B':Nat} {A:Option Addr} {vs:List NV} {ns:List Gr.Ni} (h:IAt w B A vs ns) (hB:B<=B'):IAt w B' A vs ns:=
 ⟨h.row.more hB,h.len,h.kind,fun j f e=>let⟨a,b,c,d⟩:=h.nums j f e;⟨a.more hB,b,c.more hB,d⟩⟩
theorem IAt.toG {w:World} {B:Nat} {A:Option Addr} {vs:List NV} {ns:List Gr.Ni} (h:IAt w B A vs ns) (h0:∀x∈ns,∀y∈x.keys++x.items,0<=y):GAt w B A vs (ns.map Gr.Ni.nd):=by
 refine⟨h.row,by simp[h.len],fun j f e=>?_,fun j f e=>?_⟩
 .rw[Y7]at e;rw[Z3];exact h.kind j f e
 .rw[Y7]at e;rw[Z3];obtain⟨a,b,c,d⟩:=h.nums j f e;have i:=h0 _ (K0 e);exact⟨zlc a (fun y g=>i y (K6 _ g)),by rw[b];simp[Gr.Ni.nd],zlc c (fun y g=>i y (K5 _ g)),by rw[d];simp[Gr.Ni.nd]⟩
theorem za1 {is:List Gr.Ni} (h:is.all (rng is.length)=true):(∀x∈is,∀y∈x.keys++x.items,0<=y)/\Refs (is.map Gr.Ni.nd):=by
 have c:∀x∈is,∀y∈x.keys++x.items,0<=y/\y<(is.length:Int):=by
  intro x b y a;have:=Z5.1 (Z5.1 h x b) y a;simpa[inR]using this
 refine⟨fun x b y a=>(c x b y a).1,fun x b r d=>?_⟩;obtain⟨y,a,rfl⟩:=V2.1 b;rw[Y7];rw[Gr.Ni.nd,<-Z9]at d;obtain⟨z,e,rfl⟩:=V2.1 d;have:=c y a z e;omega
theorem IAt.node {w:World} {B:Nat} {A:Option Addr} {vs:List NV} {ns:List Gr.Ni} (h:IAt w B A vs ns) {j:Nat} (hj:j<ns.length):∃(ad:Addr) (k i:SV),A=some ad/\ad.block<B/\w.cell? (ad.add (j*5))=some (.int .i64 ns[j].kind)/\w.cell? {block:=(ad.add (j*5)).block,off:=(ad.add (j*5)).off+1}=some (.string ⟨ns[j].text.toArray⟩)/\w.cell? {block:=(ad.add (j*5)).block,off:=(ad.add (j*5)).off+2}=some (.bool ns[j].ord)/\
 w.cell? {block:=(ad.add (j*5)).block,off:=(ad.add (j*5)).off+3}=some (.slice k.a k.n k.c)/\w.cell? {block:=(ad.add (j*5)).block,off:=(ad.add (j*5)).off+4}=some (.slice i.a i.n i.c)/\RowAt intI w B k.a ns[j].keys/\k.n=ns[j].keys.length/\RowAt intI w B i.a ns[j].items/\i.n=ns[j].items.length:=by
 have b:j<vs.length:=by rw[h.len];exact hj
 obtain⟨ad,g,v,d,f,e,l,m⟩:=zj4 h.row b;obtain⟨s,o,r⟩:=h.kind j b hj;obtain⟨t,p,q,u⟩:=h.nums j b hj;rw[s]at d;rw[o]at f;rw[r]at e;exact⟨ad,vs[j].k,vs[j].i,g,v,d,f,e,l,m,t,p,q,u⟩
theorem zb7 {α:Type} (f:α->Bool) (l:List α) (k:Nat) (h:k<l.length):(l.take (k+1)).all f=((l.take k).all f && f l[k]):=by
 rw[Q2 h,Y9];simp
theorem zfa (A:Option Addr) (c:Nat) (root:Int) (vs:List NV) (ns:List Gr.Ni) (hl:ns.length<=1073741823) (hks:∀n∈ns,n.keys.length<=1073741823/\n.items.length<=1073741823) (w:World) (h:IAt w w.heap.size A vs ns):
 Calls prog 29 #[.agg #[.slice A ns.length c,.int .i64 root]] w fun e w'=>e=.returned (.bool (indB ns root))/\Below w.heap.size w w':=by
 have H:=hid h;obtain⟨D,a⟩:=ex (inR ns.length root)
 have o:=hid a;unfold inR at a;clear h;go_enter func29,ntmps29;go_upto_region 1 with fail;go_cut [3] (fun s3 wx=>s3=.bool D/\∃w1,w1=wx/\w1=w.alloc (.cells #[.slice A ns.length c,.int .i64 root] 24))
 case first=>
  by_cases h1:0<=root
  .by_cases h2:root<(ns.length:Int)
   .obtain rfl:D=true:=by rw[<-a];simp[h1,h2]
    clear a o;go_wp2;go_meet;exact⟨rfl,_,rfl,rfl⟩
   .obtain rfl:D=false:=by rw[<-a];simp[h2]
    clear a o;go_wp2;go_meet;exact⟨rfl,_,rfl,rfl⟩
  .obtain rfl:D=false:=by rw[<-a];simp[h1]
   clear a o;go_wp2;go_meet;exact⟨rfl,_,rfl,rfl⟩
 case rest=>
  obtain⟨rfl,w1,rfl,G⟩:=hcut;have l1:Below w.heap.size w w1:=by rw[G];exact(K4 _ _).alloc (K2 _) _
  have b1:Blk w1 w.heap.size 24 #[.slice A ns.length c,.int .i64 root]:=by rw[G];exact K8 _ _ _
  have W:w1.cell? ⟨w.heap.size,0,none⟩=some (.slice A ns.length c):=b1.cell 0;obtain⟨F,v⟩:=ex w.heap.size
  have HGB:=hid v;have L1:=hid l1;have s:=hid b1;have H1:=hid (H.out.below l1);rw[v]at W s H1;(try rw[v]);have l:Hid (F<w1.heap.size):=hid s.out.lt;clear G l1 b1 v a;go_upto_region 3 with fail;clear W;go_loopw [3,24] (fun s3 s24 wr=>∃(j:Nat) (b:Bool),j<=ns.length/\s24=.int .i64 j/\s3=.bool b/\Hid (b=(D && (ns.take j).all (rng ns.length))/\Below w1.heap.size w1 wr)) (fun _ s24 _=>ns.length-(intOf s24).toNat)
  case atStart=>exact⟨0,D,by omega,rfl,rfl,hid ⟨by simp,K4 _ _⟩⟩
  case round=>
   obtain⟨j,b,hj,rfl,rfl,q⟩:=hrel;obtain⟨f,Y⟩:∃f,f=wr:=⟨_,rfl⟩
   subst Y;by_cases hlt:j<ns.length
   .have S:(j:Int)<(ns.length:Int):=by omega
    obtain⟨ad,ks,is,rfl,M,c0,c1,c2,c3,c4,r1,r2,X,r4⟩:=(H1.out.below (q.out.2.mono (by have:=l.out;omega))).node hlt;obtain⟨E,kn,K⟩:=ks;obtain⟨C,aa,J⟩:=is;have U:ns[j]∈ns:=K0 hlt;obtain⟨R,O⟩:=hks _ U;have V:Hid ((ns.take (j+1)).all (rng ns.length)=((ns.take j).all (rng ns.length) && (ns[j].keys++ns[j].items).all (inR ns.length))):=hid (by rw[zb7 _ _ _ hlt];rfl);obtain⟨n,hn⟩:=ex (ns[j])
    rw[hn]at c0 c1 c2 r1 r2 X r4 R O V;obtain rfl:kn=n.keys.length:=r2;obtain rfl:aa=n.items.length:=r4;have W:f.cell? ⟨F,0,none⟩=some (.slice (some ad) ns.length c):=(s.out.below q.out.2 l.out).cell 0;have z:=hid (And.intro r1 X);have m:Hid (F<f.heap.size/\w1.heap.size<=f.heap.size):=hid ⟨by have:=q.out.2.size;have:=l.out;omega,q.out.2.size⟩;clear r1 X U hn M;go_upto_region 5 with fail;obtain⟨I,k⟩:=ex (f.alloc (.cells #[.int .i64 n.kind,.string ⟨n.text.toArray⟩,.bool n.ord,.slice E n.keys.length K,.slice C n.items.length J] 37))
    have b5:Blk I f.heap.size 37 #[.int .i64 n.kind,.string ⟨n.text.toArray⟩,.bool n.ord,.slice E n.keys.length K,.slice C n.items.length J]:=by rw[<-k];exact K8 _ _ _
    have l5:Below f.heap.size f I:=by rw[<-k];exact(K4 _ _).alloc (K2 _) _
    have s3:I.cell? ⟨f.heap.size,3,none⟩=some (.slice E n.keys.length K):=b5.cell 3;have s4:I.cell? ⟨f.heap.size,4,none⟩=some (.slice C n.items.length J):=b5.cell 4;(try rw[k]);have L5:=hid l5;clear k b5 l5 c0 c1 c2 c3 c4 W;go_upto_region 6 with fail;obtain⟨i,t⟩:=ex (I.alloc (.cells #[.slice E n.keys.length K,.slice C n.items.length J] 35))
    have b6:Blk i I.heap.size 35 #[.slice E n.keys.length K,.slice C n.items.length J]:=by rw[<-t];exact K8 _ _ _
    have N:Below f.heap.size f i:=by rw[<-t];exact L5.out.alloc L5.out.size _
    (try rw[t]);have T:=hid b6;have W:i.cell? ⟨F,0,none⟩=some (.slice (some ad) ns.length c):=((s.out.below q.out.2 l.out).below N m.out.1).cell 0;have L:Hid (RowAt intI i F E n.keys/\RowAt intI i F C n.items):=hid ⟨z.out.1.below (N.mono (by have:=m.out;omega)),z.out.2.below (N.mono (by have:=m.out;omega))⟩;have L6:Hid (Below w1.heap.size w1 i):=hid (q.out.2.trans (N.mono m.out.2));clear t b6 N s3 s4;go_loop [3,34] (fun s3 s34=>∃(r:Nat) (b2:Bool),r<=2/\s34=.int .i64 r/\s3=.bool b2/\Hid (b2=(b && (if r=0 then[]else if r=1 then n.keys else n.keys++n.items).all (inR ns.length)))) (fun _ s34=>2-(intOf s34).toNat)
    case atStart=>exact⟨0,b,by omega,rfl,rfl,hid (by simp)⟩
    case round=>
     obtain⟨r,b2,hr2,rfl,rfl,HR⟩:=hrel;by_cases hrl:r<2
     .have P:(r:Int)<2:=by omega
      obtain⟨Ax,d,cx,e1,Z⟩:∃Ax d cx,i.cell? ⟨I.heap.size,r,none⟩=some (.slice Ax (d:List Int).length cx)/\Hid (RowAt intI i F Ax d/\(if r+1=0 then[]else if r+1=1 then n.keys else n.keys++n.items)=(if r=0 then[]else if r=1 then n.keys else n.keys++n.items)++d/\d.length<=1073741823):=by
       obtain rfl|rfl:r=0\/r=1:=by omega
       .exact⟨E,n.keys,K,T.out.cell 0,hid ⟨L.out.1,by simp,R⟩⟩
       .exact⟨C,n.items,J,T.out.cell 1,hid ⟨L.out.2,by simp,O⟩⟩
      have hxl:=Z.out.2.2;go_upto_region 9 with fail;clear e1;go_loop [3,40] (fun s3 s40=>∃(y:Nat) (b3:Bool),y<=d.length/\s40=.int .i64 y/\s3=.bool b3/\Hid (b3=(b2 && (d.take y).all (inR ns.length)))) (fun _ s40=>d.length-(intOf s40).toNat)
      case atStart=>exact⟨0,b2,by omega,rfl,rfl,hid (by simp)⟩
      case round=>
       obtain⟨y,b3,hy,rfl,rfl,p⟩:=hrel;by_cases hyl:y<d.length
       .have Q:(y:Int)<(d.length:Int):=by omega
        obtain⟨x,hx⟩:=ex (d[y])
        obtain⟨adx,rfl,hadx,y0⟩:=ze9 Z.out.1 hyl;rw[hx]at y0;have u:Hid ((d.take (y+1)).all (inR ns.length)=((d.take y).all (inR ns.length) && (decide (0<=x) && decide (x<(ns.length:Int))))):=hid (by rw[zb7 _ _ _ hyl,hx];rfl);clear hx;cases b3 with
        |false=>
         have g:Hid (false=(b2 && (d.take (y+1)).all (inR ns.length))):=hid (by rw[u.out,<-Y2,<-p.out];rfl);clear p;go_wp2;go_round
         case rel=>exact⟨y+1,false,by omega,by go_num,rfl,g⟩
         case measure=>simp[intOf];omega
        |true=>
         by_cases h1:0<=x
         .by_cases h2:x<(ns.length:Int)
          .have g:Hid (true=(b2 && (d.take (y+1)).all (inR ns.length))):=hid (by rw[u.out,<-Y2,<-p.out];simp[h1,h2]);clear p;go_wp2;go_round
           case rel=>exact⟨y+1,true,by omega,by go_num,rfl,g⟩
           case measure=>simp[intOf];omega
          .have g:Hid (false=(b2 && (d.take (y+1)).all (inR ns.length))):=hid (by rw[u.out,<-Y2,<-p.out];simp[h2]);clear p;go_wp2;go_round
           case rel=>exact⟨y+1,false,by omega,by go_num,rfl,g⟩
           case measure=>simp[intOf];omega
         .have g:Hid (false=(b2 && (d.take (y+1)).all (inR ns.length))):=hid (by rw[u.out,<-Y2,<-p.out];simp[h1]);clear p;go_wp2;go_round
          case rel=>exact⟨y+1,false,by omega,by go_num,rfl,g⟩
          case measure=>simp[intOf];omega
       .have Q:¬(y:Int)<(d.length:Int):=by omega
        have g:Hid (b3=(b && (if r+1=0 then[]else if r+1=1 then n.keys else n.keys++n.items).all (inR ns.length))):=hid (by
         rw[Z.out.2.1,Y9,<-Y2,<-HR.out];have:=p.out;rwa[show y=d.length from by omega,Q4]at this)
        go_wp2;go_round
        case rel=>exact⟨r+1,b3,by omega,by go_num,rfl,g⟩
        case measure=>simp[intOf];omega
     .have P:¬(r:Int)<2:=by omega
      have g:Hid (b2=(D && (ns.take (j+1)).all (rng ns.length))/\Below w1.heap.size w1 i):=hid ⟨by
       have:=HR.out;rw[show r=2 from by omega]at this;rw[V.out,<-Y2,<-q.out.1];exact this,L6.out⟩
      go_wp2;go_roundw
      case rel=>exact⟨j+1,b2,by omega,by go_num,rfl,g⟩
      case measure=>simp[intOf];omega
   .have S:¬(j:Int)<(ns.length:Int):=by omega
    have B:Hid (indB ns root=b/\Below w.heap.size w f):=hid ⟨by
     have:=q.out.1;rw[show j=ns.length from by omega,Q4]at this;unfold indB;rw[o.out,this],L1.out.trans (q.out.2.mono L1.out.size)⟩
    go_wp2;go_ret;rw[B.out.1];exact⟨rfl,B.out.2⟩
abbrev SK:=Int×K7
def skv (k:SK):Value:=.agg #[.int .i64 k.1,.string ⟨k.2.toArray⟩]
theorem zij:(prog.fieldsOf 73).toList.map (fun f=>(f.name,f.type,f.offset))=[("Index",3,0),("Key",9,1)]:=by kernel_rfl
theorem zo2:prog.underlying 73=some (.struct (prog.fieldsOf 73)):=by kernel_rfl
theorem ztj:prog.stoodInHeld 73=false:=by kernel_rfl
theorem zik:prog.plainKey 3=true:=by kernel_rfl
theorem zil:prog.plainKey 9=true:=by kernel_rfl
theorem zyi (a b:SK) (w:World):(Op.equal 73 (skv a) (skv b)).run prog w=.ok (a==b) w:=by
 unfold Op.equal Op.maxDepth skv;rw[run_equalIn_struct w 9999 73 _ _ zo2 ztj];have c:=zij;obtain⟨i,d⟩:=ex ((prog.fieldsOf 73).toList)
 rw[d]at c ⊢;obtain⟨f,g,rfl⟩:∃f g,i=[f,g]:=by
  rcases i with _|⟨f,_|⟨g,_|⟨h,r⟩⟩⟩
  .simp at c
  .simp at c
  .exact⟨f,g,rfl⟩
  .simp at c
 simp only[U8,D0,List.cons.injEq,Prod.mk.injEq,and_true]at c;obtain⟨⟨m,k,o⟩,p,n,l⟩:=c;simp only[Op.eqFields,m,p,k,n,o,l];have j:∀(x y:Value),(part 3 #[x,y] 0).run prog w=.ok x w:=fun x y=>run_part_plain w zik rfl
 have q:∀(x y:Value),(part 9 #[x,y] 1).run prog w=.ok y w:=fun x y=>run_part_plain w zil rfl
 have e:(a==b)=((a.1==b.1) && (a.2==b.2)):=rfl;have e2:((⟨a.2.toArray⟩:ByteArray).toList==(⟨b.2.toArray⟩:ByteArray).toList)=(a.2==b.2):=by rw[ByteArray.toList_eq,ByteArray.toList_eq]
 rw[e];simp[j,q,run_equalIn_int w 9998 3 .i64 .i64 a.1 b.1 underlying3,run_equalIn_string w 9998 9 _ _ underlying9];by_cases h:a.1=b.1<;>by_cases h2:a.2=b.2<;>simp[h,h2]
structure MapAt (w:World) (D b:Nat) (gl:List (SK×List Nat)) (vs:List Value) (es:Array MapEntry):Prop where
 blk:w.heap[b]? =some (.map es gl.length)
 lv:vs.length=gl.length
 le:es.size=gl.length
 at_:∀i (h:i<es.size) (h1:i<gl.length) (h2:i<vs.length),es[i]=⟨skv gl[i].1,vs[i],i⟩
 own:∀i (h1:i<vs.length) (h2:i<gl.length),OwnRow intL w D 3 vs[i] gl[i].2
 ap:∀i j (h1:i<vs.length) (h2:j<vs.length),i≠j->∀k,vs[i].ownBlock=some k->vs[j].ownBlock≠some k
 nd:(gl.map (·.1)).Nodup
 lo:b<D
 hd:D<=w.heap.size
theorem zo3 (em:Bool) (n:Nat) (k:SK) (w:World):(Instr.checkKey em (n+1+1) 73 (skv k)).run prog w=.ok () w:=by
 unfold skv;have a:=zij;have j:∀(x y:Value),(part 3 #[x,y] 0).run prog w=.ok x w:=fun x y=>run_part_plain w zik rfl
 have u:∀(x y:Value),(part 9 #[x,y] 1).run prog w=.ok y w:=fun x y=>run_part_plain w zil rfl
 have i:∀(x:Int),(Instr.checkKey em (n+1) 3 (.int .i64 x)).run prog w=.ok () w:=fun x=>by simp[Instr.checkKey,run_underlying underlying3]
 have e:∀(x:ByteArray),(Instr.checkKey em (n+1) 9 (.string x)).run prog w=.ok () w:=fun x=>by simp[Instr.checkKey,run_underlying underlying9]
 generalize hn:n+1=m at i e;rw[Instr.checkKey];simp only[Sem.run_bind,run_underlying zo2,Result.andThen_ok];rw[<-Array.forIn_toList];obtain⟨d,c⟩:=ex ((prog.fieldsOf 73).toList)
 rw[c]at a ⊢;obtain⟨f,g,rfl⟩:∃f g,d=[f,g]:=by
  rcases d with _|⟨f,_|⟨g,_|⟨h,r⟩⟩⟩
  .simp at a
  .simp at a
  .exact⟨f,g,rfl⟩
  .simp at a
 simp only[U8,D0,List.cons.injEq,Prod.mk.injEq,and_true]at a;obtain⟨⟨p,l,s⟩,t,q,o⟩:=a;simp[List.forIn_cons,p,l,s,t,q,o,j,u,i,e]
theorem zer (em:Bool) (k:SK) (w:World):(Instr.checkKey em 10000 73 (skv k)).run prog w=.ok () w:=zo3 em 9998 k w
theorem zyj (k:SK) (W:World):∀(gl:List (SK×List Nat)) (vs:List Value) (es:List MapEntry) (m:Nat),es.length=gl.length->vs.length=gl.length->(∀i (h:i<es.length) (h1:i<gl.length) (h2:i<vs.length),es[i].key=skv gl[i].1/\es[i].val=vs[i])->
 (∃j,∃(h1:j<gl.length) (h2:j<vs.length),gl[j].1=k/\(Instr.findAsking 73 (skv k) es m).run prog W=.ok (some (m+j,vs[j])) W)\/((∀g∈gl,g.1≠k)/\(Instr.findAsking 73 (skv k) es m).run prog W=.ok none W):=by
 intro gl
 induction gl with
 |nil=>
  intro vs es m h1 h2 _;obtain rfl:=List.eq_nil_of_length_eq_zero h1;exact .inr ⟨by simp,by simp[Instr.findAsking]⟩
 |cons g gl ih=>
  intro vs es m h1 h2 n
  match es,vs,h1,h2 with
  |e::es,v::vs,h1,h2=>
   obtain⟨l,o⟩:=n 0 (by simp) (by simp) (by simp);simp only[Q6]at l o;by_cases hk:g.1=k
   .refine .inl ⟨0,by simp,by simp,by simpa using hk,?_⟩;simp[Instr.findAsking,l,zyi,hk,o]
   .have f:(k==g.1)=false:=by simpa using fun e=>hk e.symm
    have p:(Instr.findAsking 73 (skv k) (e::es) m).run prog W=(Instr.findAsking 73 (skv k) es (m+1)).run prog W:=by
     simp[Instr.findAsking,l,zyi,f]
    rw[p];rcases ih vs es (m+1) (by simpa using h1) (by simpa using h2) (fun i a b c=>by
     have:=n (i+1) (by simp;omega) (by simp;omega) (by simp;omega);simpa using this)with⟨j,a,b,c,d⟩|⟨a,b⟩
    .refine .inl ⟨j+1,by simp;omega,by simp;omega,by simpa using c,?_⟩;rw[d];simp;omega
    .grind
section
variable {w w2:World} {D b:Nat} {gl:List (SK×List Nat)} {vs:List Value} {es:Array MapEntry}
theorem MapAt.find (h:MapAt w D b gl vs es) (k:SK) (W:World):(∃j,∃(h1:j<gl.length) (h2:j<vs.length),gl[j].1=k/\(Instr.findKey 73 (skv k) es.toList).run prog W=.ok (some (j,vs[j])) W)\/((∀g∈gl,g.1≠k)/\(Instr.findKey 73 (skv k) es.toList).run prog W=.ok none W):=by
 rw[run_findKey_eq W (k:=73) (by rw[zo2])];have:=zyj k W gl vs es.toList 0 (by simpa using h.le) h.lv (fun i a h1 h2=>by
  have:=h.at_ i (by simpa using a) h1 h2;simp only[Array.getElem_toList,this];exact⟨trivial,trivial⟩)
 simpa using this
theorem MapAt.look (h:MapAt w D b gl vs es) (k:SK):(∃j,∃(h1:j<gl.length) (h2:j<vs.length),gl[j].1=k/\(Instr.lookup 71 (.map (some b)) (skv k) false).run prog w=.ok vs[j] w)\/((∀g∈gl,g.1≠k)/\(Instr.lookup 71 (.map (some b)) (skv k) false).run prog w=.ok (.slice none 0 0) w):=by
 rcases h.find k w with⟨j,h1,h2,a,c⟩|⟨h1,h2⟩
 .refine .inl ⟨j,h1,h2,a,?_⟩;simp[Instr.lookup,run_underlying underlying71,MapKept.run_getObj_map h.blk,zer,c]
 .refine .inr ⟨h1,?_⟩;simp[Instr.lookup,run_underlying underlying71,MapKept.run_getObj_map h.blk,zer,h2]
theorem Kept1.heap {w:World} {g:Nat} (o:Obj):Kept1 g w {w with heap:=w.heap.setIfInBounds g o}:=by
 refine⟨rfl,rfl,rfl,by simp,fun k a=>?_⟩;show(w.heap.setIfInBounds g o)[k]? =_;rw[Array.getElem?_setIfInBounds_ne (Ne.symm a)]
theorem zg5 {w:World} {g:Nat} {o o':Obj} (h:w.heap[g]? =some o):({w with heap:=w.heap.setIfInBounds g o'}:World).heap[g]? =some o':=by
 grind
theorem OwnRow.kept1 {α:Type} {L:Lay α} {w w':World} {base g:Nat} {E:TypeId} {v:Value} {l:List α} (h:OwnRow L w base E v l) (hk:Kept1 g w w') (hg:g<base):OwnRow L w' base E v l:=by
 have hlt:=h.lt;refine⟨h.1,h.2.imp id ?_⟩;rintro⟨e,a,c,i,d,f,r⟩;exact⟨e,a,c,i,d,(hk.block e (by omega)).trans f,r⟩
theorem MapAt.entry (h:MapAt w D b gl vs es) (k:SK):∃(w1:World) (gl1:List (SK×List Nat)) (vs1:List Value) (es1:Array MapEntry) (j:Nat),∃(h1:j<gl1.length) (h2:j<vs1.length),(Instr.mapEntry 71 (.map (some b)) (skv k)).run prog w=.ok (.tuple #[vs1[j],.int .i64 (j:Int)]) w1/\Kept1 b w w1/\MapAt w1 D b gl1 vs1 es1/\gl1[j].1=k/\
 (gl1=gl\/((∀g∈gl,g.1≠k)/\gl1=gl++[(k,[])])):=by
 rcases h.find k w with⟨j,h1,h2,q,v⟩|⟨h1,h2⟩
 .have f:j<es.size:=by rw[h.le];exact h1
  have o:(es[j]?.map (·.key)).getD (skv k)=skv k:=by
   rw[Y5 f,h.at_ j f h1 h2];simp[q]
  have hborn:(es[j]?.map (·.born)).getD 0=j:=by
   rw[Y5 f,h.at_ j f h1 h2];simp
  have m:(Instr.keyThatStays (skv k) (skv k)).run prog w=.ok (skv k) w:=by
   have:Instr.sameBits 10000 (skv k) (skv k)=true:=by
    show Instr.sameBits (9999+1) (skv k) (skv k)=true;unfold skv;rw[Instr.sameBits];simp[Instr.sameBits,(MapKept.bytes_beq _ _).2 rfl]
   simp[Instr.keyThatStays,this]
  have n:es.modify j (fun e=>{e with key:=skv k})=es:=by
   apply Array.ext
   .simp
   .intro i a c;rw[V8];split
    .subst i;rw[h.at_ j f h1 h2,q]
    .rfl
  refine⟨{w with heap:=w.heap.setIfInBounds b (.map es gl.length)},gl,vs,es,j,h1,h2,?_,Kept1.heap _,?_,q,.inl rfl⟩
  .simp[Instr.mapEntry,run_underlying underlying71,MapKept.run_getObj_map h.blk,zer,v,o,m,n,MapKept.run_setObj_map _ h.blk,goInt];rw[Y5 f,h.at_ j f h1 h2];simp
  .exact⟨zg5 h.blk,h.lv,h.le,h.at_,fun i a c=>(h.own i a c).kept1 (Kept1.heap _) h.lo,h.ap,h.nd,h.lo,by have:=h.hd;simpa using this⟩
 .have hb:=h.lo;refine⟨{w with heap:=w.heap.setIfInBounds b (.map (es.push ⟨skv k,.slice none 0 0,gl.length⟩) (gl.length+1))},gl++[(k,[])],vs++[.slice none 0 0],es.push ⟨skv k,.slice none 0 0,gl.length⟩,gl.length,by simp,by simp[h.lv],?_,Kept1.heap _,?_,by simp,.inr ⟨h1,rfl⟩⟩
  .have:(vs++[Value.slice none 0 0])[gl.length]'(by simp[h.lv])=.slice none 0 0:=by simp[<-h.lv]
   simp[Instr.mapEntry,run_underlying underlying71,MapKept.run_getObj_map h.blk,zer,h2,MapKept.run_setObj_map _ h.blk,goInt,this]
  .refine⟨?_,by simp[h.lv],by simp[h.le],?_,?_,?_,?_,h.lo,by have:=h.hd;simpa using this⟩
   .rw[zg5 h.blk];simp
   .intro i a c d;simp only[Array.size_push,X2,X7,U3,h.le]at a c d;by_cases hi:i<gl.length
    .rw[Array.getElem_push_lt (by rw[h.le];exact hi),h.at_ i (by rw[h.le];exact hi) hi (by rw[h.lv];exact hi),K9 hi,K9 (by rw[h.lv];exact hi)]
    .have l:i=gl.length:=by omega
     subst l;have y:(es.push ⟨skv k,.slice none 0 0,gl.length⟩)[gl.length]'(by simp[h.le])=⟨skv k,.slice none 0 0,gl.length⟩:=by
      simp[Array.getElem_push,h.le]
     rw[y];have r:(vs++[Value.slice none 0 0])[gl.length]'(by simp[h.lv])=.slice none 0 0:=by simp[<-h.lv]
     rw[r];simp
   .intro i a c;simp only[X2,X7,U3]at a c;by_cases hi:i<gl.length
    .have t:i<vs.length:=by rw[h.lv];exact hi
     rw[K9 t,K9 hi];exact(h.own i t hi).kept1 (Kept1.heap _) h.lo
    .have l:i=gl.length:=by omega
     subst l;have r:(vs++[Value.slice none 0 0])[gl.length]'(by simp[h.lv])=.slice none 0 0:=by simp[<-h.lv]
     rw[r];simp only[List.getElem_concat_length];exact OwnRow.nil
   .intro i j a c p g e;simp only[X2,X7,U3]at a c;by_cases hi:i<vs.length
    .rw[K9 hi]at e;by_cases hj:j<vs.length
     .rw[K9 hj];exact h.ap i j hi hj p g e
     .have f:j=vs.length:=by omega
      subst f;simp[Value.ownBlock]
    .have l:i=vs.length:=by omega
     subst l;simp[Value.ownBlock]at e
   .rw[Z9,List.nodup_append];refine⟨h.nd,by simp,?_⟩;intro a u c s;simp at s;subst s;obtain⟨g,x,rfl⟩:=V2.1 u;exact h1 g x
theorem MapAt.store (h:MapAt w D b gl vs es) {j:Nat} (h1:j<gl.length) (h2:j<vs.length) {v2:Value} {l:List Nat} (ho:OwnRow intL w2 D 3 v2 l) (hg:w.grownBy w2 (vs[j]).ownBlock) (hat:v2.ownBlock=(vs[j]).ownBlock\/v2.ownBlock=some w.heap.size):
 ∃w3 es3,(Instr.entryStore 71 (.map (some b)) (.int .i64 (j:Int)) v2).run prog w2=.ok () w3/\Kept1 b w2 w3/\MapAt w3 D b (gl.set j (gl[j].1,l)) (vs.set j v2) es3:=by
 have m:=h.lo;have hsz:=hg.size;have p:j<es.size:=by rw[h.le];exact h1
 have n:w2.heap[b]? =some (.map es gl.length):=(hg.block b (by have:=h.hd;omega) (fun e=>by have:=((h.own j h2 h1).lt b e.symm).1;omega)).trans h.blk;have q:es.findIdx? (fun e=>((e.born:Nat):Int)==(j:Int))=some j:=by
  rw[Array.findIdx?_eq_some_iff_getElem];refine⟨p,by rw[h.at_ j p h1 h2];simp,fun i f=>?_⟩;rw[h.at_ i (by omega) (by omega) (by have:=h.lv;omega)];simp;omega
 have hap:∀i (a:i<vs.length),i≠j->∀k,v2.ownBlock=some k->vs[i].ownBlock≠some k:=by
  intro i a o k e s;rcases hat with h3|h3
  .exact h.ap i j a h2 o k s (h3.symm.trans e)
  .have:=((h.own i a (by have:=h.lv;omega)).lt k s).2;rw[h3]at e;injection e with e;omega
 refine⟨{w2 with heap:=w2.heap.setIfInBounds b (.map (es.modify j fun e=>{e with val:=v2}) gl.length)},es.modify j fun e=>{e with val:=v2},?_,Kept1.heap _,?_⟩
 .simp[Instr.entryStore,MapKept.run_getObj_map n,asInt,asIntOf,q,MapKept.run_setObj_map _ n]
 .refine⟨by rw[zg5 n];simp,by simp[h.lv],by simp[h.le],?_,?_,?_,?_,m,by have:=h.hd;simp;omega⟩
  .intro i a c d;simp only[Array.size_modify,W0]at a c d;rw[V8];by_cases f:i=j
   .subst f;simp only[if_true,V4];rw[h.at_ i p h1 h2]
   .rw[if_neg (by omega),Q3 (by omega),Q3 (by omega),h.at_ i (by rw[h.le];simpa using c) (by simpa using c) (by simpa using d)]
  .intro i a c;have r:i<vs.length:=by simpa using a
   have u:i<gl.length:=by simpa using c
   by_cases f:i=j
   .subst f;simp only[V4];exact ho.kept1 (Kept1.heap _) m
   .simp only[Q3 (Ne.symm f)];exact((h.own i r u).off hg (fun k e s=>h.ap i j r h2 f k e s.symm)).kept1 (Kept1.heap _) m
  .intro i t a c o g e;have r:i<vs.length:=by simpa using a
   have u:t<vs.length:=by simpa using c
   by_cases f:i=j
   .grind
   .simp only[Q3 (Ne.symm f)]at e;by_cases hj:t=j
    .grind
    .simp only[Q3 (Ne.symm hj)];exact h.ap i t r u o g e
  .have:(gl.set j (gl[j].1,l)).map (·.1)=gl.map (·.1):=by
    apply List.ext_getElem
    .simp
    .grind
   rw[this];exact h.nd
end
structure GI (kd:Nat->SK) (P:List Nat) (gl:List (SK×List Nat)):Prop where
 grp:∀g∈gl,g.2=P.filter (fun x=>kd x==g.1)
 all:∀x∈P,∃g∈gl,g.1=kd x
theorem GI.nil (kd:Nat->SK):GI kd [] []:=⟨fun _ h=>(by cases h),fun _ h=>(by cases h)⟩
theorem GI.none {kd:Nat->SK} {P:List Nat} {gl:List (SK×List Nat)} (h:GI kd P gl) {k:SK} (hk:∀g∈gl,g.1≠k):P.filter (fun x=>kd x==k)=[]:=by
 rw[List.filter_eq_nil_iff];intro x c e;obtain⟨g,a,d⟩:=h.all x c;exact hk g a (d.trans (by simpa using e))
theorem GI.next {kd:Nat->SK} {P:List Nat} {gl gl1:List (SK×List Nat)} (h:GI kd P gl) {x j:Nat} (h1:j<gl1.length) (hk:gl1[j].1=kd x) (hor:gl1=gl\/((∀g∈gl,g.1≠kd x)/\gl1=gl++[(kd x,[])])) (hn:(gl1.map (·.1)).Nodup):
 GI kd (P++[x]) (gl1.set j (gl1[j].1,gl1[j].2++[x])):=by
 have d:GI kd P gl1:=by
  rcases hor with rfl|⟨h2,rfl⟩
  .exact h
  .refine⟨fun g hg=>?_,fun y hy=>?_⟩
   .rcases U2.1 hg with hg|hg
    .exact h.grp g hg
    .simp at hg;subst hg;exact(h.none h2).symm
   .obtain⟨g,hg,f⟩:=h.all y hy;exact⟨g,K6 _ hg,f⟩
 have hj:=d.grp _ (K0 h1);refine⟨fun g hg=>?_,fun y hy=>?_⟩
 .obtain⟨i,c,rfl⟩:=Z0 hg;simp only[W0]at c;by_cases hij:i=j
  .grind
  .simp only[Q3 (Ne.symm hij),List.filter_append];rw[<-d.grp _ (K0 c)];have k:gl1[i].1≠kd x:=fun e=>by
    have hn':=List.pairwise_iff_getElem.1 (show(gl1.map (·.1)).Pairwise (· ≠·)from hn);rcases Nat.lt_or_gt_of_ne hij with h3|h3
    .grind
    .grind
   simp[Ne.symm k]
 .have a:∀g∈gl1,∃g'∈gl1.set j (gl1[j].1,gl1[j].2++[x]),g'.1=g.1:=by
   intro g hg;obtain⟨i,c,rfl⟩:=Z0 hg;refine⟨(gl1.set j (gl1[j].1,gl1[j].2++[x]))[i]'(by simpa using c),K0 _,?_⟩;by_cases hij:i=j
   .subst hij;simp
   .grind
  rcases U2.1 hy with hy|hy
  .obtain⟨g,hg,f⟩:=d.all y hy;obtain⟨g',h3,l⟩:=a g hg;exact⟨g',h3,l.trans f⟩
  .grind
theorem zc7 (ns:List X0) (f:Nat) (l:List Nat) (z:Nat):twice1 ns f (l++[z])=(twice1 ns f l || l.any (fun x=>sameF ns f z x)):=by
 induction l with
 |nil=>rfl
 |cons x l ih=>
  rw[List.cons_append];show((l++[z]).any (fun y=>sameF ns f y x) || twice1 ns f (l++[z]))=((l.any (fun y=>sameF ns f y x) || twice1 ns f l) || (x::l).any (fun x=>sameF ns f z x))
  rw[ih];simp only[Y8,List.any_cons,List.any_nil,Bool.or_false];cases l.any (fun y=>sameF ns f y x)<;>cases sameF ns f z x<;>cases twice1 ns f l<;>simp
theorem zj8 (ns:List X0) (f:Nat) (l m:List Nat) (h:twice1 ns f l=true):twice1 ns f (l++m)=true:=by
 induction m generalizing l with
 |nil=>simpa using h
 |cons x m ih=>
  rw[show l++x::m=(l++[x])++m from by simp];exact ih _ (by rw[zc7,h];rfl)
theorem zj9 (ns:List X0) (f:Nat) (l:List Nat) (k:Nat) (h:twice1 ns f (l.take k)=true):twice1 ns f l=true:=by
 have:=zj8 ns f (l.take k) (l.drop k) h;rwa[List.take_append_drop]at this
def kdOf (ns:List X0) (x:Nat):SK:=((ns.getD x ⟨0,[],false,[],[]⟩).kind,(ns.getD x ⟨0,[],false,[],[]⟩).text)
theorem zwj {ns:List X0} {f i j:Nat} (h:sameF ns f i j=true):kdOf ns i=kdOf ns j:=by
 cases f with
 |zero=>cases h
 |succ f=>
  unfold sameF at h;split at h
  .rename_i a b ha hb;have c:ns.getD i ⟨0,[],false,[],[]⟩=a:=by rw[K1,ha];rfl
   have d:ns.getD j ⟨0,[],false,[],[]⟩=b:=by rw[K1,hb];rfl
   unfold kdOf;rw[c,d];split at h
   .cases h
   .rename_i hn;simp only[not_or,Classical.not_not]at hn;rw[hn.1,hn.2.1]
  .cases h
theorem MapAt.later {w w':World} {D b:Nat} {gl:List (SK×List Nat)} {vs:List Value} {es:Array MapEntry} (h:MapAt w D b gl vs es) (hb:Below w.heap.size w w'):MapAt w' D b gl vs es:=
 ⟨(hb.block b (by have:=h.lo;have:=h.hd;omega)).trans h.blk,h.lv,h.le,h.at_,fun i a c=>(h.own i a c).later hb,h.ap,h.nd,h.lo,Q7 h.hd hb.size⟩
theorem MapAt.lookL {w:World} {D b:Nat} {gl:List (SK×List Nat)} {vs:List Value} {es:Array MapEntry} (h:MapAt w D b gl vs es) {kd:Nat->SK} {P:List Nat} (hg:GI kd P gl) (k:SK):
 ∃A c,(Instr.lookup 71 (.map (some b)) (skv k) false).run prog w=.ok (.slice A (P.filter (fun x=>kd x==k)).length c) w/\RowAt intL w w.heap.size A (P.filter (fun x=>kd x==k)):=by
 rcases h.look k with⟨j,a,d,i,l⟩|⟨a,d⟩
 .obtain⟨A,c,g,f⟩:=(h.own j d a).form;have e:=hg.grp _ (K0 a);rw[i]at e;rw[e]at g f;exact⟨A,c,by rw[l,g],f⟩
 .rw[hg.none a];exact⟨none,0,d,RowAt.nil⟩
theorem zo4 (F:Nat) (A:Option Addr) (c:Nat) (root:Int) (vs:List NV) (ns:List X0) (hr:Refs ns) (hl:ns.length<=1073741823) (hks:∀n∈ns,n.keys.length<=1073741823/\n.items.length<=1073741823)
 (hsame:∀x∈allKeys ns,∀y∈allKeys ns,∀W,GAt W W.heap.size A vs ns->Calls prog 50 #[.agg #[.slice A ns.length c,.int .i64 root],.int .i64 x,.int .i64 y] W fun e W'=>e=.returned (.bool (sameF ns F x y))/\Below W.heap.size W W')
 (w:World) (h:GAt w w.heap.size A vs ns):
 Calls prog 33 #[.agg #[.slice A ns.length c,.int .i64 root]] w fun e w'=>e=.returned (.bool (twice ns F))/\Below w.heap.size w w':=by
 have H:=hid h;have aB:=hid hsame;have hmm:= @run_makeMap prog;clear h hsame;go_enter func33,ntmps33;go_upto_region 1 with fail;obtain⟨w1,ag⟩:=ex (w.alloc (.cells #[.slice A ns.length c,.int .i64 root] 24))
 (try rw[ag]);have l1:Below w.heap.size w w1:=by rw[<-ag];exact(K4 _ _).alloc (K2 _) _
 have b1:Blk w1 w.heap.size 24 #[.slice A ns.length c,.int .i64 root]:=by rw[<-ag];exact K8 _ _ _
 obtain⟨gb,ac⟩:=ex w.heap.size
 have d:=hid ac;have L1:=hid l1;(try rw[ac]);rw[ac]at b1;have aK:=hid b1;have H1:=hid (H.out.below l1);have g0:w1.cell? ⟨gb,0,none⟩=some (.slice A ns.length c):=b1.cell 0;have p:Hid (gb<w1.heap.size):=hid b1.lt;clear ag ac l1 b1;go_upto_region 2 with fail;clear g0;go_loopw [14] (fun s14 wr=>∃j:Nat,j<=ns.length/\s14=.int .i64 j/\Hid (Below w1.heap.size w1 wr/\(ns.take j).any (fun x=>twice1 ns F x.keys)=false)) (fun s14 _=>ns.length-(intOf s14).toNat)
 case atStart=>exact⟨0,by omega,rfl,hid ⟨K4 _ _,by simp⟩⟩
 case round=>
  obtain⟨j,hj,rfl,J⟩:=hrel;obtain⟨K,a4⟩:∃K,K=wr:=⟨_,rfl⟩
  subst a4;by_cases hlt:j<ns.length
  .have aY:(j:Int)<(ns.length:Int):=by omega
   have aa:Hid (gb<K.heap.size/\w1.heap.size<=K.heap.size):=hid ⟨by have:=J.out.1.size;have:=p.out;omega,J.out.1.size⟩;obtain⟨ad,ks,is,rfl,Y⟩:=(H1.out.below (J.out.1.mono (by have:=p.out;have:=d.out;omega))).node hlt;obtain⟨ka,kn,kc⟩:=ks;obtain⟨ia,bi,ic⟩:=is;have T:ns[j]∈ns:=K0 hlt;obtain⟨bg,a9⟩:=hks _ T;have az:Hid (∀x∈ns[j].keys,x∈allKeys ns/\x<ns.length):=hid (fun x hx=>⟨List.mem_flatMap.2 ⟨_,T,hx⟩,hr _ T x (K6 _ hx)⟩);have av:Hid ((ns.take (j+1)).any (fun x=>twice1 ns F x.keys)=twice1 ns F ns[j].keys/\(twice1 ns F ns[j].keys=true->twice ns F=true)):=hid ⟨by
    rw[Q2 hlt,Y8,J.out.2];simp,fun e=>Z4.2 ⟨_,T,e⟩⟩
   obtain⟨n,hn⟩:=ex (ns[j])
   rw[hn]at Y bg a9 az av;obtain rfl:kn=n.keys.length:=Y.kn;obtain rfl:bi=n.items.length:=Y.inn;have x0:=Y.c0;have x1:=Y.c1;have x2:=Y.c2;have x3:=Y.c3;have x4:=Y.c4;have a6:=hid Y.keys;clear Y T hn;go_upto_region 5 with fail;obtain⟨B,C⟩:=ex ((K.alloc (.cells #[.int .i64 n.kind,.string ⟨n.text.toArray⟩,.bool n.ord,.slice ka n.keys.length kc,.slice ia n.items.length ic] 37)).alloc (.map #[] 0))
   obtain⟨lb,u⟩:=ex K.heap.size
   have b5:Blk B lb 37 #[.int .i64 n.kind,.string ⟨n.text.toArray⟩,.bool n.ord,.slice ka n.keys.length kc,.slice ia n.items.length ic]:=by rw[<-C,<-u];exact(K8 _ _ _).alloc _
   have m5:B.heap[lb+1]? =some (.map #[] 0):=by
    rw[<-C,<-u];have:=heap_alloc_new (K.alloc (.cells #[.int .i64 n.kind,.string ⟨n.text.toArray⟩,.bool n.ord,.slice ka n.keys.length kc,.slice ia n.items.length ic] 37)) (.map #[] 0);rw[Q9]at this;exact this
   have l5:Below K.heap.size K B:=by rw[<-C];exact((K4 _ _).alloc (K2 _) _).alloc (by simp) _
   have af:B.heap.size=lb+1+1:=by rw[<-C,<-u];simp
   obtain⟨q,ab⟩:=ex (lb+1)
   rw[ab]at m5 af;have ar:MapAt B (q+1) q [] [] #[]:=⟨m5,rfl,rfl,fun i h=>by simp at h,fun i h=>by simp at h,fun i j h=>by simp at h,by simp,by omega,by omega⟩
   obtain⟨D,hD⟩:=ex (q+1)
   rw[hD]at ar af;have a:Hid (gb<lb/\lb+1=q/\q+1=D/\K.heap.size=lb/\B.heap.size=D):=hid ⟨by have:=aa.out;omega,ab,hD,u,af⟩;have s3:B.cell? ⟨lb,3,none⟩=some (.slice ka n.keys.length kc):=b5.cell 3;have bc:=hid ar;have HB5:=hid b5;have L5:Hid (Below lb K B):=hid (by rw[<-u];exact l5);have ba:Hid (RowAt intL B gb ka n.keys):=hid (by
    have h1:=a6.out;rw[d.out]at h1;exact h1.below (l5.mono (by have:=aa.out;omega)))
   rw[C];(try rw[u]);rw[ab];clear C b5 m5 l5 af ab ar hD u x0 x1 x2 x3 x4;go_upto_region 6 with fail;clear s3;go_loopw [22] (fun s22 wr=>∃k:Nat,k<=n.keys.length/\s22=.int .i64 k/\Hid (Below q B wr/\(∃gl vs es,MapAt wr D q gl vs es/\GI (kdOf ns) (n.keys.take k) gl)/\twice1 ns F (n.keys.take k)=false)) (fun s22 _=>n.keys.length-(intOf s22).toNat)
   case atStart=>exact⟨0,by omega,rfl,hid ⟨K4 _ _,⟨_,_,_,bc.out,by simpa using GI.nil _⟩,by simp[twice1]⟩⟩
   case round=>
    obtain⟨k,hk,rfl,HV⟩:=hrel;obtain⟨S,bm⟩:∃S,S=wr:=⟨_,rfl⟩
    subst bm;by_cases hlk:k<n.keys.length
    .have aL:(k:Int)<(n.keys.length:Int):=by omega
     obtain⟨x,hx⟩:=ex (n.keys[k])
     obtain⟨ax,an⟩:=az.out n.keys[k] (K0 hlk);rw[hx]at ax an;have a0:Below gb B S:=HV.out.1.mono (by have:=a.out;omega);obtain⟨adk,rfl,hadk,y0⟩:=zaf (ba.out.below a0) hlk;rw[hx]at y0;have hxI:(x:Int)<(ns.length:Int):=by omega
     have g0:S.cell? ⟨gb,0,none⟩=some (.slice (some ad) ns.length c):=(((aK.out.below J.out.1 p.out).below L5.out a.out.1).below HV.out.1 (by have:=a.out;omega)).cell 0;have aR:GAt S w.heap.size (some ad) vs ns:=((H1.out.below (J.out.1.mono (by have:=p.out;have:=d.out;omega))).below (L5.out.mono (by have:=d.out;have:=a.out;omega))).below (HV.out.1.mono (by have:=d.out;have:=a.out;omega));obtain⟨ad',kx,ix,M,hX⟩:=aR.node an;injection M with M
     subst M;have aq:kdOf ns x=(ns[x].kind,ns[x].text):=by unfold kdOf;rw[K1,K3 an];rfl
     obtain⟨nx,aM⟩:=ex (ns[x])
     rw[aM]at hX aq;have z0:=hX.c0;have z1:=hX.c1;have aJ:=hid aq;have bf:=hid ax;have HX:=hid hx;clear hX aq aM ax hx a0 aR;go_upto_region 8 with fail;go_region_held3 (fun w'=>w'.cell? ⟨gb,0,none⟩=some (.slice (some ad) ns.length c)/\w'.cell? (ad.add (x*5))=some (.int .i64 nx.kind)/\w'.cell? {block:=(ad.add (x*5)).block,off:=(ad.add (x*5)).off+1}=some (.string ⟨nx.text.toArray⟩)) (go_keep) (fail);go_upto_region 9 with fail;obtain⟨Q,R⟩:=ex ((S.alloc (.cells #[.int .i64 nx.kind,.string ⟨nx.text.toArray⟩] 73)).drew)
     obtain⟨sb,P⟩:=ex S.heap.size
     have b8:Blk Q sb 73 #[.int .i64 nx.kind,.string ⟨nx.text.toArray⟩]:=by rw[<-R,<-P];exact(K8 _ _ _).drew
     have l8:Below S.heap.size S Q:=by rw[<-R];exact below_drewN ((K4 _ _).alloc (K2 _) _) 1
     have aD:Q.heap.size=sb+1:=by rw[<-R,<-P];simp[World.drew]
     obtain⟨gl,vl,es,hM,V⟩:=HV.out.2.1;have ap:=hM.later l8;obtain⟨AL,cL,f,am⟩:=ap.lookL V (kdOf ns x);have aA:∀y∈(n.keys.take k).filter (fun y=>kdOf ns y==kdOf ns x),y∈n.keys.take k:=fun y hy=>(Z8.1 hy).1
     have v:((n.keys.take k).filter (fun y=>kdOf ns y==kdOf ns x)).any (fun y=>sameF ns F x y)=false->(n.keys.take k).any (fun y=>sameF ns F x y)=false:=by
      intro h1;rw[List.any_eq_false]at h1 ⊢;intro y hy h2;exact h1 y (Z8.2 ⟨hy,by have:=zwj h2;simp[this]⟩) h2
     have bk:((n.keys.take k).filter (fun y=>kdOf ns y==kdOf ns x)).length<=1073741823:=Q7 (V3 _ _) (Q7 (V9 _ _) (by omega));obtain⟨L,hL⟩:=ex ((n.keys.take k).filter (fun y=>kdOf ns y==kdOf ns x))
     rw[hL]at f am aA v bk;rw[aJ.out]at f;unfold skv at f;simp only at f;obtain⟨t0,t1⟩:=cells2 b8;have bl:Hid (∃gl vs es,MapAt Q D q gl vs es/\GI (kdOf ns) (n.keys.take k) gl):=hid ⟨gl,vl,es,ap,V⟩;have aV:Hid (S.heap.size=sb/\Q.heap.size=sb+1/\D<=sb):=hid ⟨P,aD,by have:=hM.hd;omega⟩;have aW:Hid (Below q B Q/\twice1 ns F (n.keys.take k)=false):=hid ⟨HV.out.1.trans (l8.mono (by have:=hM.hd;have:=a.out;omega)),HV.out.2.2⟩;have aQ:=hid b8;have a7:=hid am;have be:=hid aA;have a1:=hid v;rw[R];(try rw[P]);clear R P b8 l8 aD hM V ap am aA v hL g0 z0 z1 y0;go_upto_region 10 with fail;clear f t0 t1;go_loopw [43] (fun s43 wr=>∃r:Nat,r<=L.length/\s43=.int .i64 r/\Hid (Below Q.heap.size Q wr/\(L.take r).any (fun y=>sameF ns F x y)=false)) (fun s43 _=>L.length-(intOf s43).toNat)
     case atStart=>exact⟨0,by omega,rfl,hid ⟨K4 _ _,by simp⟩⟩
     case round=>
      obtain⟨r,hr2,rfl,X⟩:=hrel;obtain⟨o,a2⟩:∃o,o=wr:=⟨_,rfl⟩
      subst a2;have s:Below q B o:=aW.out.1.trans (X.out.1.mono (by have:=aV.out;have:=a.out;omega));by_cases hrl:r<L.length
      .have aH:(r:Int)<(L.length:Int):=by omega
       obtain⟨y,hy⟩:=ex (L[r])
       have ay:y∈n.keys.take k:=by rw[<-hy];exact be.out _ (K0 hrl)
       have aS:y∈n.keys:=List.mem_of_mem_take ay;obtain⟨aI,hyn⟩:=az.out y aS;obtain⟨adl,rfl,_,y0⟩:=zaf (a7.out.below X.out.1) hrl;rw[hy]at y0;have aF:=(((aK.out.below J.out.1 p.out).below L5.out a.out.1).below s (by have:=a.out;omega))
       obtain⟨g0,g1⟩:=cells2 aF;have aG:GAt o o.heap.size (some ad) vs ns:=(((H1.out.below (J.out.1.mono (by have:=p.out;have:=d.out;omega))).below (L5.out.mono (by have:=d.out;have:=a.out;omega))).below (s.mono (by have:=d.out;have:=a.out;omega))).more (by have:=X.out.1.size;have:=aV.out;have:=a.out;have:=d.out;omega);have HC:=hid (aB.out x bf.out y aI o aG);have aE:Hid ((L.take (r+1)).any (fun y=>sameF ns F x y)=sameF ns F x y):=hid (by rw[Q2 hrl,Y8,X.out.2,hy];simp);have aT:Hid (sameF ns F x y=true->twice ns F=true):=hid (fun e=>av.out.2 (by
        refine zj9 ns F n.keys (k+1) ?_;rw[zaj _ _ hlk,zc7,HX.out];have:(n.keys.take k).any (fun z=>sameF ns F x z)=true:=Z4.2 ⟨y,ay,e⟩;rw[this];simp))
       obtain⟨b,hb⟩:=ex (sameF ns F x y)
       rw[hb]at HC aE aT;have aZ:Hid (Below w.heap.size w o):=hid ((L1.out.trans (J.out.1.mono (by have:=p.out;have:=d.out;omega))).trans ((L5.out.mono (by have:=d.out;have:=a.out;omega)).trans (s.mono (by have:=d.out;have:=a.out;omega))));have aC:Hid (w.heap.size<=o.heap.size/\Q.heap.size<=o.heap.size):=hid ⟨aZ.out.size,X.out.1.size⟩;clear aF aG hy aS ay aI hb s;go_wp2_with fail;refine HC.out.mono ?_;rintro e w9 ⟨rfl,ae⟩;cases b with
       |true=>
        have aj:Hid (twice ns F=true/\Below w.heap.size w w9):=hid ⟨aT.out rfl,aZ.out.trans (ae.mono aC.out.1)⟩;clear ae;go_wp2;go_ret;rw[aj.out.1];exact⟨rfl,aj.out.2⟩
       |false=>
        have O:Hid (Below Q.heap.size Q w9/\(L.take (r+1)).any (fun y=>sameF ns F x y)=false):=hid ⟨X.out.1.trans (ae.mono aC.out.2),aE.out⟩;clear ae;go_wp2;go_roundw
        case rel=>exact⟨r+1,by omega,by go_num,O⟩
        case measure=>simp[intOf];omega
      .have aH:¬(r:Int)<(L.length:Int):=by omega
       have aX:twice1 ns F (n.keys.take (k+1))=false:=by
        rw[zaj _ _ hlk,zc7,HX.out,aW.out.2,a1.out (by
         have:=X.out.2;rwa[show r=L.length from by omega,Q4]at this)]
        rfl
       obtain⟨gl,vl,es,hM,V⟩:=bl.out;have aP:=(hM.later X.out.1).later ((K4 o.heap.size o).alloc (K2 _) (.cells #[.int .i64 x] 3));obtain⟨wE,m,au,a8,jj,Z,q2,hE,I,l,N,E⟩:=aP.entry (kdOf ns x);obtain⟨t0,t1⟩:=cells2 (aQ.out.below X.out.1 aQ.out.lt);have hq:=(l.own jj q2 Z)
       obtain⟨Aj,cj,t,bb⟩:=hq.form;clear bb;rw[t]at hE hq;rw[aJ.out]at hE;unfold skv at hE;simp only at hE;have bj:m[jj].2.length<=1073741823:=by
        have al:∀g∈gl,g.2.length<=k:=fun g hg=>by
         rw[V.grp g hg];exact Q7 (V3 _ _) (V9 _ _)
        have:∀g∈m,g.2.length<=k:=by
         rcases E with rfl|⟨_,rfl⟩
         .exact al
         .intro g hg;rcases U2.1 hg with hg|hg
          .exact al g hg
          .simp at hg;subst hg;simp
        have:=this _ (K0 Z);omega
       obtain⟨lj,G⟩:=ex (m[jj].2)
       rw[G]at hE hq t bj;have ah:o.heap.size≠q:=by have:=hM.lo;have:=hM.hd;have:=X.out.1.size;omega
       have U:RowAt intL wE (o.heap.size+1) (some ⟨o.heap.size,0,none⟩) [x]:=X6 (I.blk (K8 o 3 #[.int .i64 x]) ah) rfl (by omega);have HE:Hid (∃(Z:jj<m.length) (q2:jj<au.length),Kept1 q (o.alloc (.cells #[.int .i64 x] 3)) wE/\MapAt wE D q m au a8/\m[jj].1=kdOf ns x/\(m=gl\/((∀g∈gl,g.1≠kdOf ns x)/\m=gl++[(kdOf ns x,[])]))/\m[jj].2=lj/\au[jj]=.slice Aj lj.length cj/\GI (kdOf ns) (n.keys.take k) gl):=hid ⟨Z,q2,I,l,N,E,G,t,V⟩;have bd:=hid aX;have HQ:=hid hq;have aN:=hid U;have a3:Hid (D<=wE.heap.size):=hid l.hd;have a5:=hid s;have bh:Hid (q<=o.heap.size):=hid (by have:=s.size;have:=a.out;omega);clear hM V aP I l N E G t hq U aX s ah Z q2;go_wp2_with (at_builtin;go_must (refine zab _ rfl (.tmp 54) (.tmp 56) 35 3 8 rfl intT D (.slice Aj lj.length cj) lj rfl HQ.out _ _ 1 [x] rfl aN.out ?_ ?_ ?_))
       any_goals (first|exact a3.out| (simp;omega))
       intro v' w3 ai hg aw;obtain⟨Z,q2,I,l,N,E,G,t,V⟩:=HE.out;rw[<-t]at hg aw;obtain⟨w4,es3,hST,aU,aO⟩:=l.store Z q2 ai hg aw;have ao:=V.next Z N E l.nd;rw[G]at ao;have O:Hid (Below q B w4/\(∃gl vs es,MapAt w4 D q gl vs es/\GI (kdOf ns) (n.keys.take (k+1)) gl)/\twice1 ns F (n.keys.take (k+1))=false):=hid ⟨
        (((a5.out.alloc bh.out _).trans (I.below (K2 _))).trans (((l.own jj q2 Z).grown_below hg l.hd).mono (by have:=a.out;omega))).trans (aU.below (K2 _)),
        ⟨_,_,_,aO,by rw[zaj _ _ hlk,HX.out];exact ao⟩,bd.out⟩
       clear ai hg aw I l N E G t V aU aO ao Z q2;go_wp2;go_roundw
       case rel=>exact⟨k+1,by omega,by go_num,O⟩
       case measure=>simp[intOf];omega
    .have aL:¬(k:Int)<(n.keys.length:Int):=by omega
     have O:Hid (Below w1.heap.size w1 S/\(ns.take (j+1)).any (fun x=>twice1 ns F x.keys)=false):=hid ⟨(J.out.1.trans (L5.out.mono (by have:=aa.out;have:=a.out;omega))).trans (HV.out.1.mono (by have:=aa.out;have:=a.out;omega)),by
      have:=HV.out.2.2;rw[show k=n.keys.length from by omega,Q4]at this;rw[av.out.1,this]⟩
     go_wp2;go_roundw
     case rel=>exact⟨j+1,by omega,by go_num,O⟩
     case measure=>simp[intOf];omega
  .have aY:¬(j:Int)<(ns.length:Int):=by omega
   have ak:Hid (twice ns F=false/\Below w.heap.size w K):=hid ⟨by
    have:=J.out.2;rw[show j=ns.length from by omega,Q4]at this;exact this,L1.out.trans (J.out.1.mono (by have:=p.out;have:=d.out;omega))⟩
   go_wp2;go_ret;rw[ak.out.1];exact⟨rfl,ak.out.2⟩
namespace Gr
def Tall (ns:List Nd):Nat->Nat->Prop
 | 0,_=>False
 |f+1,i=>∀x∈succ ns i,Tall ns f x
def KF (ns:List Nd):Prop:=∀n∈ns,n.kind=10->n.keys.length=n.items.length
end Gr
open Go.RowKit
theorem str_eq (s t:K7):((⟨s.toArray⟩:ByteArray)==⟨t.toArray⟩)=(s==t):=by
 show(s.toArray==t.toArray)=_;simp
theorem zwk {ns:List X0} {i:Nat} (h:i<ns.length):Q8 ns i=ns[i].keys++ns[i].items:=by
 unfold Q8;rw[K3 h]
def diff (a b:X0):Bool:=a.kind != b.kind || a.text != b.text || a.ord != b.ord || a.items.length != b.items.length
theorem zmr {ns:List X0} {f i j:Nat} (hi:i<ns.length) (hj:j<ns.length):sameF ns (f+1) i j=(!diff ns[i] ns[j] && (if ns[i].kind=10/\ns[i].ord=false then(ns[i].keys.zip ns[i].items).all (fun x=>(ns[j].keys.zip ns[j].items).any (fun y=>sameF ns f x.1 y.1 && sameF ns f x.2 y.2))
 else(Y3 ns[i].items.length).all (fun k=>(ns[i].kind != 10 || sameF ns f (ns[i].keys.getD k 0) (ns[j].keys.getD k 0)) && sameF ns f (ns[i].items.getD k 0) (ns[j].items.getD k 0)))):=by
 rw[sameF,K3 hi,K3 hj];simp only;by_cases hd:ns[i].kind≠ns[j].kind\/ns[i].text≠ns[j].text\/ns[i].ord≠ns[j].ord\/ns[i].items.length≠ns[j].items.length
 .rw[if_pos hd];have:diff ns[i] ns[j]=true:=by
   unfold diff;rcases hd with h|h|h|h<;>simp[h]
  rw[this];rfl
 .rw[if_neg hd];have:diff ns[i] ns[j]=false:=by
   simp only[not_or,Classical.not_not]at hd;unfold diff;simp[hd.1,hd.2.1,hd.2.2.1,hd.2.2.2]
  rw[this];simp
theorem ztk (A:Option Addr) (c:Nat) (root:Int) (vs:List NV) (ns:List X0) (hr:Refs ns) (hkf:Gr.KF ns) (_hl:ns.length<=1073741823) (hks:∀n∈ns,n.keys.length<=1073741823/\n.items.length<=1073741823/\n.text.length<=1073741823):
 ∀(f i j:Nat) (w:World),i<ns.length->j<ns.length->Tall ns f i->GAt w w.heap.size A vs ns->
 Calls prog 50 #[.agg #[.slice A ns.length c,.int .i64 root],.int .i64 i,.int .i64 j] w fun e w'=>e=.returned (.bool (sameF ns f i j))/\Below w.heap.size w w':=by
 intro f
 induction f with
 |zero=>intro i j w _ _ h;exact h.elim
 |succ f ih=>
  intro i j w hi hj hT h;have ai:=zmr (f:=f) hi hj;have aI:=zwk hi;have V:ns[i]∈ns:=K0 hi;have aa:ns[j]∈ns:=K0 hj;obtain⟨a5,bc,bk⟩:=hks _ V;obtain⟨bf,bl,a4⟩:=hks _ aa;have aB:=hr _ V;have aE:=hr _ aa;have ay:=hkf _ V;have aG:=hkf _ aa;have aV:Hid (∀x∈ns[i].keys++ns[i].items,∀y∈ns[j].keys++ns[j].items,∀W,GAt W W.heap.size A vs ns->Calls prog 50 #[.agg #[.slice A ns.length c,.int .i64 root],.int .i64 x,.int .i64 y] W fun e w'=>e=.returned (.bool (sameF ns f x y))/\Below W.heap.size W w'):=hid (fun x F y O W z=>
   ih x y W (aB x F) (aE y O) (hT x (by rw[aI];exact F)) z)
  obtain⟨g,ks,is,rfl,u⟩:=h.node hi;obtain⟨ka,kn,kc⟩:=ks;obtain⟨ia,bh,ic⟩:=is;obtain⟨ad',a6,a8,ag,t⟩:=h.node hj;injection ag with ag
  subst ag;obtain⟨J,bi,Q⟩:=a6;obtain⟨E,aS,B⟩:=a8;obtain⟨a,ha⟩:=ex (ns[i])
  obtain⟨b,hb⟩:=ex (ns[j])
  rw[ha,hb]at ai aV;rw[ha]at u a5 bc bk aB ay;rw[hb]at t bf bl a4 aE aG;obtain rfl:kn=a.keys.length:=u.kn;obtain rfl:bh=a.items.length:=u.inn;obtain rfl:bi=b.keys.length:=t.kn;obtain rfl:aS=b.items.length:=t.inn;obtain⟨p,av⟩:=ex (w.alloc (.cells #[.slice (some g) ns.length c,.int .i64 root] 24))
  have I:Below w.heap.size w p:=by rw[<-av];exact(K4 _ _).alloc (K2 _) _
  have b1:Blk p w.heap.size 24 #[.slice (some g) ns.length c,.int .i64 root]:=by rw[<-av];exact K8 _ _ _
  obtain⟨D,ac⟩:=ex w.heap.size
  have HGB:=hid ac;rw[ac]at b1;have g0:p.cell? ⟨D,0,none⟩=some (.slice (some g) ns.length c):=b1.cell 0;have ae:=u.lt;have ab:=t.lt;have c0:p.cell? (g.add (i*5))=some (.int .i64 a.kind):=(I.cell ae).trans u.c0;have c1:p.cell? {block:=(g.add (i*5)).block,off:=(g.add (i*5)).off+1}=some (.string ⟨a.text.toArray⟩):=(I.cell (by exact ae)).trans u.c1;have c2:p.cell? {block:=(g.add (i*5)).block,off:=(g.add (i*5)).off+2}=some (.bool a.ord):=(I.cell (by exact ae)).trans u.c2;have c3:p.cell? {block:=(g.add (i*5)).block,off:=(g.add (i*5)).off+3}=some (.slice ka a.keys.length kc):=(I.cell (by exact ae)).trans u.c3;have c4:p.cell? {block:=(g.add (i*5)).block,off:=(g.add (i*5)).off+4}=some (.slice ia a.items.length ic):=(I.cell (by exact ae)).trans u.c4;have d0:p.cell? (g.add (j*5))=some (.int .i64 b.kind):=(I.cell ab).trans t.c0;have d1:p.cell? {block:=(g.add (j*5)).block,off:=(g.add (j*5)).off+1}=some (.string ⟨b.text.toArray⟩):=(I.cell (by exact ab)).trans t.c1;have d2:p.cell? {block:=(g.add (j*5)).block,off:=(g.add (j*5)).off+2}=some (.bool b.ord):=(I.cell (by exact ab)).trans t.c2;have d3:p.cell? {block:=(g.add (j*5)).block,off:=(g.add (j*5)).off+3}=some (.slice J b.keys.length Q):=(I.cell (by exact ab)).trans t.c3;have d4:p.cell? {block:=(g.add (j*5)).block,off:=(g.add (j*5)).off+4}=some (.slice E b.items.length B):=(I.cell (by exact ab)).trans t.c4;have ar:Hid (RowAt intL p D ka a.keys/\RowAt intL p D ia a.items/\RowAt intL p D J b.keys/\RowAt intL p D E b.items):=hid (by
   rw[<-ac];exact⟨u.keys.below I,u.items.below I,t.keys.below I,t.items.below I⟩)
  have bg:Hid (GAt p D (some g) vs ns):=hid (by rw[<-ac];exact h.below I);have L1:=hid I;have a9:=hid b1;have af:=hid b1.lt;have C:=hid ai;have aq:=hid (And.intro ay aG);have hiI:(i:Int)<(ns.length:Int):=by omega
  have hjI:(j:Int)<(ns.length:Int):=by omega
  clear ih hT h ai aI V aa aB aE ay aG u t ha hb I b1 ae ab;go_enter func50,ntmps50;go_upto_region 1 with fail;(try rw[av]);(try rw[ac]);clear av ac;go_cut [7,8] (fun s7 s8 wx=>∃g7 g8,s7=.pointer (some ⟨g7,0,none⟩)/\s8=.pointer (some ⟨g8,0,none⟩)/\Hid (Blk wx g7 37 #[.int .i64 a.kind,.string ⟨a.text.toArray⟩,.bool a.ord,.slice ka a.keys.length kc,.slice ia a.items.length ic]/\Blk wx g8 37 #[.int .i64 b.kind,.string ⟨b.text.toArray⟩,.bool b.ord,.slice J b.keys.length Q,.slice E b.items.length B]/\Below p.heap.size p wx))
  case first=>
   go_region_held3 (fun w'=>w'.cell? ⟨D,0,none⟩=some (.slice (some g) ns.length c)/\
    w'.cell? (g.add (i*5))=some (.int .i64 a.kind)/\w'.cell? {block:=(g.add (i*5)).block,off:=(g.add (i*5)).off+1}=some (.string ⟨a.text.toArray⟩)/\w'.cell? {block:=(g.add (i*5)).block,off:=(g.add (i*5)).off+2}=some (.bool a.ord)/\
    w'.cell? {block:=(g.add (i*5)).block,off:=(g.add (i*5)).off+3}=some (.slice ka a.keys.length kc)/\w'.cell? {block:=(g.add (i*5)).block,off:=(g.add (i*5)).off+4}=some (.slice ia a.items.length ic)/\
    w'.cell? (g.add (j*5))=some (.int .i64 b.kind)/\w'.cell? {block:=(g.add (j*5)).block,off:=(g.add (j*5)).off+1}=some (.string ⟨b.text.toArray⟩)/\w'.cell? {block:=(g.add (j*5)).block,off:=(g.add (j*5)).off+2}=some (.bool b.ord)/\
    w'.cell? {block:=(g.add (j*5)).block,off:=(g.add (j*5)).off+3}=some (.slice J b.keys.length Q)/\w'.cell? {block:=(g.add (j*5)).block,off:=(g.add (j*5)).off+4}=some (.slice E b.items.length B))
     (first|go_keep| (simp[go_sem])) (fail)
   all_goals
    go_wp2;go_meet
   .refine⟨p.heap.size,p.heap.size+1,rfl,rfl,hid ⟨(K8 _ _ _).alloc _,?_,((((K4 p.heap.size p).alloc (K2 _) _).alloc (by simp) _).drew)⟩⟩;have:=K8 (p.alloc (.cells #[.int .i64 a.kind,.string ⟨a.text.toArray⟩,.bool a.ord,.slice ka a.keys.length kc,.slice ia a.items.length ic] 37)) 37 #[.int .i64 b.kind,.string ⟨b.text.toArray⟩,.bool b.ord,.slice J b.keys.length Q,.slice E b.items.length B];rw[Q9]at this;exact this
   .refine⟨p.heap.size+1,p.heap.size,rfl,rfl,hid ⟨?_,(K8 _ _ _).alloc _,((((K4 p.heap.size p).alloc (K2 _) _).alloc (by simp) _).drew)⟩⟩;have:=K8 (p.alloc (.cells #[.int .i64 b.kind,.string ⟨b.text.toArray⟩,.bool b.ord,.slice J b.keys.length Q,.slice E b.items.length B] 37)) 37 #[.int .i64 a.kind,.string ⟨a.text.toArray⟩,.bool a.ord,.slice ka a.keys.length kc,.slice ia a.items.length ic];rw[Q9]at this;exact this
  case rest=>
   rename_i wOld;obtain⟨g7,g8,rfl,rfl,N⟩:=hcut;clear c0 c1 c2 c3 c4 d0 d1 d2 d3 d4 g0;have m:Hid (Below w.heap.size w wc):=hid (L1.out.trans (N.out.2.2.mono L1.out.size));obtain⟨c0,c1,c2⟩:=cells3 N.out.1;have c4:wc.cell? ⟨g7,4,none⟩=some (.slice ia a.items.length ic):=N.out.1.cell 4;obtain⟨d0,d1,d2⟩:=cells3 N.out.2.1;have d4:wc.cell? ⟨g8,4,none⟩=some (.slice E b.items.length B):=N.out.2.1.cell 4;by_cases h1:a.kind=b.kind
   .by_cases h2:a.text=b.text
    .by_cases h3:a.ord=b.ord
     .by_cases h4:a.items.length=b.items.length
      .have HC:Hid (∀x∈a.keys++a.items,∀y∈b.keys++b.items,∀W,Below wc.heap.size wc W->Calls prog 50 #[.agg #[.slice (some g) ns.length c,.int .i64 root],.int .i64 x,.int .i64 y] W fun e W'=>Below wc.heap.size wc W'/\e=.returned (.bool (sameF ns f x y))):=hid (fun x F y O W z=>
        (aV.out x F y O W (((bg.out.below (N.out.2.2.mono (by have:=af.out;omega))).below (z.mono (by have:=af.out;have:=N.out.2.2.size;omega))).more (by have:=af.out;have:=N.out.2.2.size;have:=z.size;omega))).mono (fun e w' h=>⟨z.trans (h.2.mono z.size),h.1⟩))
       have HS:Hid (∀W,Below wc.heap.size wc W->W.cell? ⟨D,0,none⟩=some (.slice (some g) ns.length c)/\W.cell? ⟨D,1,none⟩=some (.int .i64 root)/\W.cell? ⟨g7,0,none⟩=some (.int .i64 a.kind)/\W.cell? ⟨g7,3,none⟩=some (.slice ka a.keys.length kc)/\W.cell? ⟨g7,4,none⟩=some (.slice ia a.items.length ic)/\W.cell? ⟨g8,3,none⟩=some (.slice J b.keys.length Q)/\W.cell? ⟨g8,4,none⟩=some (.slice E b.items.length B)):=hid (fun W z=>by
        have q0:=(a9.out.below N.out.2.2 af.out).below z (by have:=af.out;have:=N.out.2.2.size;omega);have q1:=N.out.1.below z N.out.1.lt;have q2:=N.out.2.1.below z N.out.2.1.lt;exact⟨q0.cell 0,q0.cell 1,q1.cell 0,q1.cell 3,q1.cell 4,q2.cell 3,q2.cell 4⟩)
       have T:Hid (∀W,Below wc.heap.size wc W->RowAt intL W D ka a.keys/\RowAt intL W D ia a.items/\RowAt intL W D J b.keys/\RowAt intL W D E b.items):=hid (fun W z=>by
        have l:=N.out.2.2.trans (z.mono N.out.2.2.size);have l2:=l.mono (show D<=p.heap.size by have:=af.out;omega);exact⟨ar.out.1.below l2,ar.out.2.1.below l2,ar.out.2.2.1.below l2,ar.out.2.2.2.below l2⟩)
       have au:diff a b=false:=by unfold diff;simp[h1,h2,h3,h4]
       have ao:((⟨a.text.toArray⟩:ByteArray)==⟨a.text.toArray⟩)=true:=by rw[str_eq];simp
       rw[<-h1]at d0;rw[<-h2]at d1;rw[<-h3]at d2;rw[<-h4]at d4;have H4:=hid h4;by_cases hu:a.kind=10/\a.ord=false
       .have an:=aq.out.1 hu.1;have aw:=aq.out.2 (h1.symm.trans hu.1);have HU:Hid (sameF ns (f+1) i j=(a.keys.zip a.items).all (fun x=>(b.keys.zip b.items).any (fun y=>sameF ns f x.1 y.1 && sameF ns f x.2 y.2))):=hid (by rw[C.out,au,if_pos hu];rfl);have be:=hid an;have a1:=hid aw;rw[hu.1]at c0 d0;rw[hu.2]at c2 d2;have HUU:=hid hu;obtain⟨aW,aX,aZ,c3,aT,d3,ba⟩:=HS.out wc (K4 _ _);clear aW aX aZ aT ba;clear hu an aw au h1 h2 h3 h4;go_upto_region 6 with fail;clear c0 c1 c2 c3 c4 d0 d1 d2 d3 d4 ao;go_loopw [64] (fun s64 wr=>∃k:Nat,k<=a.keys.length/\s64=.int .i64 k/\Hid (Below wc.heap.size wc wr/\((a.keys.zip a.items).take k).all (fun x=>(b.keys.zip b.items).any (fun y=>sameF ns f x.1 y.1 && sameF ns f x.2 y.2))=true)) (fun s64 _=>a.keys.length-(intOf s64).toNat)
        case atStart=>exact⟨0,by omega,rfl,hid ⟨K4 _ _,by simp⟩⟩
        case round=>
         obtain⟨k,hk,rfl,G⟩:=hrel;obtain⟨wq,a7⟩:∃wq,wq=wr:=⟨_,rfl⟩
         subst a7;by_cases hlt:k<a.keys.length
         .have M:(k:Int)<(a.keys.length:Int):=by omega
          have r:k<a.items.length:=by have:=be.out;omega
          have aC:(k:Int)<(a.items.length:Int):=by omega
          obtain⟨x,F⟩:=ex (a.keys[k])
          obtain⟨X,Z⟩:=ex (a.items[k])
          have aU:Hid (x∈a.keys++a.items/\X∈a.keys++a.items):=hid ⟨K6 _ (F▸K0 hlt),K5 _ (Z▸K0 r)⟩;obtain⟨adk,rfl,_,y0⟩:=zaf (T.out wq G.out.1).1 hlt;rw[F]at y0;have S:Hid (((a.keys.zip a.items).take (k+1)).all (fun x=>(b.keys.zip b.items).any (fun y=>sameF ns f x.1 y.1 && sameF ns f x.2 y.2))=(b.keys.zip b.items).any (fun y=>sameF ns f x y.1 && sameF ns f X y.2)):=hid (by
           rw[zb7 _ _ _ (by simp;omega),G.out.2,X8,F,Z];rfl)
          obtain⟨g0,g1,a0,c3,c4,d3,d4⟩:=HS.out wq G.out.1;have bd:=hid F;have al:=hid Z;clear F Z g0 g1 a0 c3 c4 d4;go_upto_region 10 with fail;clear y0 d3;go_loopw [11,72] (fun s11 s72 wr=>∃(l:Nat) (fb:Bool),l<=b.keys.length/\s72=.int .i64 l/\s11=.bool fb/\Hid (Below wc.heap.size wc wr/\fb=((b.keys.zip b.items).take l).any (fun y=>sameF ns f x y.1 && sameF ns f X y.2))) (fun _ s72 _=>b.keys.length-(intOf s72).toNat)
          case atStart=>exact⟨0,false,by omega,rfl,rfl,hid ⟨G.out.1,by simp⟩⟩
          case round=>
           obtain⟨l,fb,hl2,rfl,rfl,HV⟩:=hrel;by_cases hll:l<b.keys.length
           .have aY:(l:Int)<(b.keys.length:Int):=by omega
            have aj:l<b.items.length:=by have:=a1.out;omega
            have hll2I:(l:Int)<(b.items.length:Int):=by omega
            obtain⟨wv,am⟩:∃wv,wv=wr:=⟨_,rfl⟩
            subst am;obtain⟨y,O⟩:=ex (b.keys[l])
            obtain⟨Y,P⟩:=ex (b.items[l])
            have ah:y∈b.keys++b.items:=K6 _ (O▸K0 hll);have L:Y∈b.keys++b.items:=K5 _ (P▸K0 aj);obtain⟨r1,r2,r3,r4⟩:=T.out wv HV.out.1;obtain⟨adl,rfl,hadl,z0⟩:=zaf r3 hll;obtain⟨H,rfl,hadX,z1⟩:=zaf r2 r;obtain⟨K,rfl,hadY,z2⟩:=zaf r4 aj;rw[O]at z0;rw[al.out]at z1;rw[P]at z2;obtain⟨g0,g1,a0,c3,c4,d3,d4⟩:=HS.out wv HV.out.1;have ax:Hid (((b.keys.zip b.items).take (l+1)).any (fun y=>sameF ns f x y.1 && sameF ns f X y.2)=(fb || (sameF ns f x y && sameF ns f X Y))):=hid (by
             rw[Q2 (by simp;omega),Y8,<-HV.out.2,X8,O,P];simp)
            have aN:=hid (HC.out x aU.out.1 y ah);have aR:=hid (HC.out X aU.out.2 Y L);have d:Hid (∀W,Below wc.heap.size wc W->W.cell? ⟨D,0,none⟩=some (.slice (some g) ns.length c)/\W.cell? ⟨D,1,none⟩=some (.int .i64 root)/\W.cell? ⟨g7,4,none⟩=some (.slice (some H) a.items.length ic)/\W.cell? ⟨g8,4,none⟩=some (.slice (some K) b.items.length B)/\W.cell? (H.add k)=some (.int .i64 X)/\W.cell? (K.add l)=some (.int .i64 Y)):=hid (fun W z=>by
             obtain⟨q0,q1,_,_,q4,_,q5⟩:=HS.out W z;obtain⟨_,t2,_,t4⟩:=T.out W z;obtain⟨e1,f1,_,f3⟩:=zaf t2 r;obtain⟨e2,f4,_,f6⟩:=zaf t4 aj;injection f1 with f1;injection f4 with f4
             subst f1;subst f4;rw[al.out]at f3;rw[P]at f6;exact⟨q0,q1,q4,q5,f3,f6⟩)
            clear r1 r2 r3 r4 ah L O P a0 c3 d3;go_upto_region 12 with fail;have o:Hid (∀W:WB wc.heap.size wc,Calls prog 50 #[.agg #[.slice (some g) ns.length c,.int .i64 root],.int .i64 x,.int .i64 y] W.w (fun e W'=>e=.returned (.bool (sameF ns f x y))/\Below wc.heap.size wc W')/\Calls prog 50 #[.agg #[.slice (some g) ns.length c,.int .i64 root],.int .i64 X,.int .i64 Y] W.w (fun e W'=>e=.returned (.bool (sameF ns f X Y))/\Below wc.heap.size wc W')):=hid (fun W=>⟨(aN.out W.w W.h).mono (fun _ _ h=>⟨h.2,h.1⟩),(aR.out W.w W.h).mono (fun _ _ h=>⟨h.2,h.1⟩)⟩);have p1:=fun W:WB wc.heap.size wc=>(d.out W.w W.h).1
            have p2:=fun W:WB wc.heap.size wc=>(d.out W.w W.h).2.1
            have p3:=fun W:WB wc.heap.size wc=>(d.out W.w W.h).2.2.1
            have p4:=fun W:WB wc.heap.size wc=>(d.out W.w W.h).2.2.2.1
            have p5:=fun W:WB wc.heap.size wc=>(d.out W.w W.h).2.2.2.2.1
            have p6:=fun W:WB wc.heap.size wc=>(d.out W.w W.h).2.2.2.2.2
            obtain⟨s1,R⟩:=ex (sameF ns f x y)
            obtain⟨s2,s⟩:=ex (sameF ns f X Y)
            rw[R,s]at o ax;clear R s aN aR g0 g1 c4 d4 z1 z2;cases fb<;>cases s1
            all_goals
             refine zac wc.heap.size wc (by kernel_rfl) (by kernel_rfl) HV.out.1 ?_
             repeat (go_big_quiet_step ((first| (with_reducible refine Q5 (o.out _).1)| (with_reducible refine Q5 (o.out _).2))))
             refine wpQuiet_nil ?_;rintro _ ⟨wz,rfl⟩;go_wp2;go_roundw
             case rel=>
              first
               |exact⟨l+1,true,by omega,by go_num,rfl,hid ⟨wz.h,by rw[ax.out];rfl⟩⟩
               |exact⟨l+1,s2,by omega,by go_num,rfl,hid ⟨wz.h,by rw[ax.out];rfl⟩⟩
               |exact⟨l+1,false,by omega,by go_num,rfl,hid ⟨wz.h,by rw[ax.out];rfl⟩⟩
             case measure=>simp[intOf];omega
           .have aY:¬(l:Int)<(b.keys.length:Int):=by omega
            have ap:fb=(b.keys.zip b.items).any (fun y=>sameF ns f x y.1 && sameF ns f X y.2):=by
             have:=HV.out.2;rwa[V1 (by simp;omega)]at this
            cases fb with
            |true=>
             have a3:Hid (((a.keys.zip a.items).take (k+1)).all (fun x=>(b.keys.zip b.items).any (fun y=>sameF ns f x.1 y.1 && sameF ns f x.2 y.2))=true):=hid (by rw[S.out,<-ap]);clear ap;go_wp2;go_roundw
             case rel=>exact⟨k+1,by omega,by go_num,hid ⟨HV.out.1,a3.out⟩⟩
             case measure=>simp[intOf];omega
            |false=>
             have v:Hid (sameF ns (f+1) i j=false):=hid (by
              rw[HU.out,X4];refine⟨(x,X),?_,by rw[<-ap];simp⟩;have h1:k<(a.keys.zip a.items).length:=by simp;omega
              have h2:(a.keys.zip a.items)[k]=(x,X):=by rw[X8,bd.out,al.out]
              rw[<-h2];exact K0 h1)
             clear ap;go_wp2;go_ret;rw[v.out];exact⟨rfl,m.out.trans (HV.out.1.mono m.out.size)⟩
         .have M:¬(k:Int)<(a.keys.length:Int):=by omega
          have v:Hid (sameF ns (f+1) i j=true):=hid (by
           have:=G.out.2;rw[V1 (by simp;omega)]at this;rw[HU.out,this])
          go_wp2;go_ret;rw[v.out];exact⟨rfl,m.out.trans (G.out.1.mono m.out.size)⟩
       .have HU:Hid (sameF ns (f+1) i j=(Y3 a.items.length).all (fun k=>(a.kind != 10 || sameF ns f (a.keys.getD k 0) (b.keys.getD k 0)) && sameF ns f (a.items.getD k 0) (b.items.getD k 0))):=hid (by rw[C.out,au,if_neg hu];rfl);have aL:Hid (a.kind=10->a.keys.length=a.items.length/\b.keys.length=b.items.length):=hid (fun e=>⟨aq.out.1 e,aq.out.2 (h1.symm.trans e)⟩);obtain⟨kd,aM⟩:=ex a.kind
        obtain⟨od,aJ⟩:=ex a.ord
        rw[aM]at c0 d0 aL HS HU hu;rw[aJ]at c2 d2 hu;have bj:=hid hu;clear aM aJ au h1 h2 h3 h4 hu;by_cases hk10:kd=10
        .subst hk10;cases od with
         |false=>exact absurd ⟨rfl,rfl⟩ bj.out
         |true=>
          go_upto_region 19 with fail;clear c0 c1 c2 c4 d0 d1 d2 d4;go_loopw [105] (fun s105 wr=>∃k:Nat,k<=a.items.length/\s105=.int .i64 k/\Hid (Below wc.heap.size wc wr/\(Y3 k).all (fun k=>((10:Int) != 10 || sameF ns f (a.keys.getD k 0) (b.keys.getD k 0)) && sameF ns f (a.items.getD k 0) (b.items.getD k 0))=true)) (fun s105 _=>a.items.length-(intOf s105).toNat)
          case atStart=>exact⟨0,by omega,rfl,hid ⟨K4 _ _,by simp⟩⟩
          case round=>
           obtain⟨k,hk,rfl,G⟩:=hrel;by_cases hlt:k<a.items.length
           .have M:(k:Int)<(a.items.length:Int):=by omega
            have q:k<b.items.length:=by have:=H4.out;omega
            have az:(k:Int)<(b.items.length:Int):=by omega
            obtain⟨an,aw⟩:=aL.out (by trivial);have r:k<a.keys.length:=by omega
            have aC:(k:Int)<(a.keys.length:Int):=by omega
            have U:k<b.keys.length:=by have:=H4.out;omega
            have hlt3I:(k:Int)<(b.keys.length:Int):=by omega
            obtain⟨x,F⟩:=ex (a.keys[k])
            obtain⟨y,O⟩:=ex (b.keys[k])
            have aO:x∈a.keys++a.items:=K6 _ (F▸K0 r);have ah:y∈b.keys++b.items:=K6 _ (O▸K0 U);obtain⟨wv,am⟩:∃wv,wv=wr:=⟨_,rfl⟩
            subst am;obtain⟨X,Z⟩:=ex (a.items[k])
            obtain⟨Y,P⟩:=ex (b.items[k])
            have ak:X∈a.keys++a.items:=K5 _ (Z▸K0 hlt);have L:Y∈b.keys++b.items:=K5 _ (P▸K0 q);obtain⟨r1,r2,r3,r4⟩:=T.out wv G.out.1;obtain⟨aH,rfl,_,z3⟩:=zaf r1 r;obtain⟨aQ,rfl,_,z4⟩:=zaf r3 U;obtain⟨H,rfl,_,z1⟩:=zaf r2 hlt;obtain⟨K,rfl,_,z2⟩:=zaf r4 q;have d:Hid (∀W,Below wc.heap.size wc W->W.cell? ⟨D,0,none⟩=some (.slice (some g) ns.length c)/\W.cell? ⟨D,1,none⟩=some (.int .i64 root)/\W.cell? ⟨g7,0,none⟩=some (.int .i64 10)/\W.cell? ⟨g7,4,none⟩=some (.slice (some H) a.items.length ic)/\W.cell? ⟨g8,4,none⟩=some (.slice (some K) b.items.length B)/\W.cell? (H.add k)=some (.int .i64 X)/\W.cell? (K.add k)=some (.int .i64 Y)/\W.cell? ⟨g7,3,none⟩=some (.slice (some aH) a.keys.length kc)/\W.cell? ⟨g8,3,none⟩=some (.slice (some aQ) b.keys.length Q)/\W.cell? (aH.add k)=some (.int .i64 x)/\W.cell? (aQ.add k)=some (.int .i64 y)):=hid (fun W z=>by
             obtain⟨q0,q1,q2,q3,q4,q6,q5⟩:=HS.out W z;obtain⟨t1,t2,t3,t4⟩:=T.out W z;obtain⟨e1,f1,_,f3⟩:=zaf t2 hlt;obtain⟨e2,f4,_,f6⟩:=zaf t4 q;injection f1 with f1;injection f4 with f4
             subst f1;subst f4;rw[Z]at f3;rw[P]at f6;obtain⟨e3,f7,_,f9⟩:=zaf t1 r;obtain⟨e4,aA,_,aK⟩:=zaf t3 U;injection f7 with f7;injection aA with aA
             subst f7;subst aA;rw[F]at f9;rw[O]at aK;exact⟨q0,q1,q2,q4,q5,f3,f6,q3,q6,f9,aK⟩)
            have o:Hid (∀W:WB wc.heap.size wc,Calls prog 50 #[.agg #[.slice (some g) ns.length c,.int .i64 root],.int .i64 x,.int .i64 y] W.w (fun e W'=>e=.returned (.bool (sameF ns f x y))/\Below wc.heap.size wc W')/\Calls prog 50 #[.agg #[.slice (some g) ns.length c,.int .i64 root],.int .i64 X,.int .i64 Y] W.w (fun e W'=>e=.returned (.bool (sameF ns f X Y))/\Below wc.heap.size wc W')):=hid (fun W=>⟨(HC.out x aO y ah W.w W.h).mono (fun _ _ h=>⟨h.2,h.1⟩),(HC.out X ak Y L W.w W.h).mono (fun _ _ h=>⟨h.2,h.1⟩)⟩);have p0:=fun W:WB wc.heap.size wc=>(d.out W.w W.h).1
            have p1:=fun W:WB wc.heap.size wc=>(d.out W.w W.h).2.1
            have p2:=fun W:WB wc.heap.size wc=>(d.out W.w W.h).2.2.1
            have p3:=fun W:WB wc.heap.size wc=>(d.out W.w W.h).2.2.2.1
            have p4:=fun W:WB wc.heap.size wc=>(d.out W.w W.h).2.2.2.2.1
            have p5:=fun W:WB wc.heap.size wc=>(d.out W.w W.h).2.2.2.2.2.1
            have p6:=fun W:WB wc.heap.size wc=>(d.out W.w W.h).2.2.2.2.2.2.1
            have p7:=fun W:WB wc.heap.size wc=>(d.out W.w W.h).2.2.2.2.2.2.2.1
            have p8:=fun W:WB wc.heap.size wc=>(d.out W.w W.h).2.2.2.2.2.2.2.2.1
            have p9:=fun W:WB wc.heap.size wc=>(d.out W.w W.h).2.2.2.2.2.2.2.2.2.1
            have bb:=fun W:WB wc.heap.size wc=>(d.out W.w W.h).2.2.2.2.2.2.2.2.2.2
            have gx:a.keys.getD k 0=x:=by rw[K1,K3 r,F];rfl
            have gy:b.keys.getD k 0=y:=by rw[K1,K3 U,O];rfl
            have gX:a.items.getD k 0=X:=by rw[K1,K3 hlt,Z];rfl
            have gY:b.items.getD k 0=Y:=by rw[K1,K3 q,P];rfl
            obtain⟨s1,R⟩:=ex (sameF ns f x y)
            obtain⟨s2,s⟩:=ex (sameF ns f X Y)
            have S:Hid ((Y3 (k+1)).all (fun k=>((10:Int) != 10 || sameF ns f (a.keys.getD k 0) (b.keys.getD k 0)) && sameF ns f (a.items.getD k 0) (b.items.getD k 0))=(s1 && s2)):=hid (by rw[U1,Y9,G.out.2];simp only[W6,D1,U9,W9,gx,gy,gX,gY,R,s,bne_self_eq_false,W8]);have aF:Hid ((s1 && s2)=false->sameF ns (f+1) i j=false):=hid (fun e=>by
             rw[HU.out,X4];exact⟨k,W3.2 hlt,by simp only[gx,gy,gX,gY,R,s,bne_self_eq_false,W8];rw[e];simp⟩)
            rw[R,s]at o;clear gx gy gX gY R s r1 r2 r3 r4 z1 z2 F O aO ah an aw z3 z4 Z P ak L;go_upto_region 21 with fail;cases s1<;>cases s2
            all_goals
             refine zac wc.heap.size wc (by kernel_rfl) (by kernel_rfl) G.out.1 ?_
             repeat (go_big_quiet_step (((first| (with_reducible refine Q5 (o.out _).1)| (with_reducible refine Q5 (o.out _).2)))))
             refine wpQuiet_nil ?_;rintro _ ⟨wz,rfl⟩;clear p0 p1 p2 p3 p4 p5 p6 p7 p8 p9 bb;go_wp2_with fail
            all_goals first
             | (go_ret
                rw[aF.out (by first|rfl|trivial)];exact⟨rfl,m.out.trans (wz.h.mono m.out.size)⟩)
             | (go_roundw
                case rel=>exact⟨k+1,by omega,by go_num,hid ⟨wz.h,by first| (rw[S.out];done)| (rw[S.out];rfl)⟩⟩
                case measure=>simp[intOf];omega)
           .have M:¬(k:Int)<(a.items.length:Int):=by omega
            have v:Hid (sameF ns (f+1) i j=true):=hid (by
             have:=G.out.2;rw[show k=a.items.length from by omega]at this;rw[HU.out,this])
            go_wp2;go_ret;rw[v.out];exact⟨rfl,m.out.trans (G.out.1.mono m.out.size)⟩
        .have aD:(kd==10)=false:=by simpa using hk10
         have aP:(kd != 10)=true:=by simp[bne,aD]
         go_upto_region 19 with fail;clear c0 c1 c2 c4 d0 d1 d2 d4;go_loopw [105] (fun s105 wr=>∃k:Nat,k<=a.items.length/\s105=.int .i64 k/\Hid (Below wc.heap.size wc wr/\(Y3 k).all (fun k=>(kd != 10 || sameF ns f (a.keys.getD k 0) (b.keys.getD k 0)) && sameF ns f (a.items.getD k 0) (b.items.getD k 0))=true)) (fun s105 _=>a.items.length-(intOf s105).toNat)
         case atStart=>exact⟨0,by omega,rfl,hid ⟨K4 _ _,by simp⟩⟩
         case round=>
          obtain⟨k,hk,rfl,G⟩:=hrel;by_cases hlt:k<a.items.length
          .have M:(k:Int)<(a.items.length:Int):=by omega
           have q:k<b.items.length:=by have:=H4.out;omega
           have az:(k:Int)<(b.items.length:Int):=by omega
           obtain⟨wv,am⟩:∃wv,wv=wr:=⟨_,rfl⟩
           subst am;obtain⟨X,Z⟩:=ex (a.items[k])
           obtain⟨Y,P⟩:=ex (b.items[k])
           have ak:X∈a.keys++a.items:=K5 _ (Z▸K0 hlt);have L:Y∈b.keys++b.items:=K5 _ (P▸K0 q);obtain⟨r1,r2,r3,r4⟩:=T.out wv G.out.1;obtain⟨H,rfl,_,z1⟩:=zaf r2 hlt;obtain⟨K,rfl,_,z2⟩:=zaf r4 q;have d:Hid (∀W,Below wc.heap.size wc W->W.cell? ⟨D,0,none⟩=some (.slice (some g) ns.length c)/\W.cell? ⟨D,1,none⟩=some (.int .i64 root)/\W.cell? ⟨g7,0,none⟩=some (.int .i64 kd)/\W.cell? ⟨g7,4,none⟩=some (.slice (some H) a.items.length ic)/\W.cell? ⟨g8,4,none⟩=some (.slice (some K) b.items.length B)/\W.cell? (H.add k)=some (.int .i64 X)/\W.cell? (K.add k)=some (.int .i64 Y)):=hid (fun W z=>by
            obtain⟨q0,q1,q2,q3,q4,q6,q5⟩:=HS.out W z;obtain⟨t1,t2,t3,t4⟩:=T.out W z;obtain⟨e1,f1,_,f3⟩:=zaf t2 hlt;obtain⟨e2,f4,_,f6⟩:=zaf t4 q;injection f1 with f1;injection f4 with f4
            subst f1;subst f4;rw[Z]at f3;rw[P]at f6;exact⟨q0,q1,q2,q4,q5,f3,f6⟩)
           have o:Hid (∀W:WB wc.heap.size wc,True/\Calls prog 50 #[.agg #[.slice (some g) ns.length c,.int .i64 root],.int .i64 X,.int .i64 Y] W.w (fun e W'=>e=.returned (.bool (sameF ns f X Y))/\Below wc.heap.size wc W')):=hid (fun W=>⟨trivial,(HC.out X ak Y L W.w W.h).mono (fun _ _ h=>⟨h.2,h.1⟩)⟩);have p0:=fun W:WB wc.heap.size wc=>(d.out W.w W.h).1
           have p1:=fun W:WB wc.heap.size wc=>(d.out W.w W.h).2.1
           have p2:=fun W:WB wc.heap.size wc=>(d.out W.w W.h).2.2.1
           have p3:=fun W:WB wc.heap.size wc=>(d.out W.w W.h).2.2.2.1
           have p4:=fun W:WB wc.heap.size wc=>(d.out W.w W.h).2.2.2.2.1
           have p5:=fun W:WB wc.heap.size wc=>(d.out W.w W.h).2.2.2.2.2.1
           have p6:=fun W:WB wc.heap.size wc=>(d.out W.w W.h).2.2.2.2.2.2
           have gX:a.items.getD k 0=X:=by rw[K1,K3 hlt,Z];rfl
           have gY:b.items.getD k 0=Y:=by rw[K1,K3 q,P];rfl
           obtain⟨s2,s⟩:=ex (sameF ns f X Y)
           have S:Hid ((Y3 (k+1)).all (fun k=>(kd != 10 || sameF ns f (a.keys.getD k 0) (b.keys.getD k 0)) && sameF ns f (a.items.getD k 0) (b.items.getD k 0))=s2):=hid (by rw[U1,Y9,G.out.2];simp only[W6,D1,U9,W9,gX,gY,s,aP,D2]);have aF:Hid (s2=false->sameF ns (f+1) i j=false):=hid (fun e=>by
            rw[HU.out,X4];exact⟨k,W3.2 hlt,by simp only[gX,gY,s,aP,D2,U9];rw[e];simp⟩)
           rw[s]at o;clear gX gY s r1 r2 r3 r4 z1 z2 Z P ak L;go_upto_region 21 with fail;cases s2
           all_goals
            refine zac wc.heap.size wc (by kernel_rfl) (by kernel_rfl) G.out.1 ?_
            repeat (go_big_quiet_step (((with_reducible refine Q5 (o.out _).2))))
            refine wpQuiet_nil ?_;rintro _ ⟨wz,rfl⟩;clear p0 p1 p2 p3 p4 p5 p6;go_wp2_with fail
           all_goals first
            | (go_ret
               rw[aF.out (by first|rfl|trivial)];exact⟨rfl,m.out.trans (wz.h.mono m.out.size)⟩)
            | (go_roundw
               case rel=>exact⟨k+1,by omega,by go_num,hid ⟨wz.h,by first| (rw[S.out];done)| (rw[S.out];rfl)⟩⟩
               case measure=>simp[intOf];omega)
          .have M:¬(k:Int)<(a.items.length:Int):=by omega
           have v:Hid (sameF ns (f+1) i j=true):=hid (by
            have:=G.out.2;rw[show k=a.items.length from by omega]at this;rw[HU.out,this])
           go_wp2;go_ret;rw[v.out];exact⟨rfl,m.out.trans (G.out.1.mono m.out.size)⟩
      .have a2:¬((a.items.length:Int)=(b.items.length:Int)):=by omega
       have h4b:((a.items.length:Int)==(b.items.length:Int))=false:=by simpa using a2
       have ao:((⟨a.text.toArray⟩:ByteArray)==⟨a.text.toArray⟩)=true:=by rw[str_eq];simp
       have HF:Hid (sameF ns (f+1) i j=false):=hid (by rw[C.out];simp[diff,h4]);rw[<-h1]at d0;rw[<-h2]at d1;rw[<-h3]at d2;clear h1 h2 h3 h4;go_wp2;go_ret;rw[HF.out];exact⟨rfl,m.out⟩
     .have HF:Hid (sameF ns (f+1) i j=false):=hid (by rw[C.out];simp[diff,h3]);have ao:((⟨a.text.toArray⟩:ByteArray)==⟨a.text.toArray⟩)=true:=by rw[str_eq];simp
      rw[<-h1]at d0;rw[<-h2]at d1;obtain⟨x,F⟩:=ex a.ord
      obtain⟨y,O⟩:=ex b.ord
      rw[F]at c2 h3;rw[O]at d2 h3;clear h1 h2 F O;cases x<;>cases y<;>first|exact absurd rfl h3|skip
      all_goals
       clear h3;go_wp2;go_ret;rw[HF.out];exact⟨rfl,m.out⟩
    .have HF:Hid (sameF ns (f+1) i j=false):=hid (by rw[C.out];simp[diff,h2]);have ao:((⟨a.text.toArray⟩:ByteArray)==⟨b.text.toArray⟩)=false:=by rw[str_eq];simpa using h2
     rw[<-h1]at d0;clear h1;go_wp2;go_ret;rw[HF.out];exact⟨rfl,m.out⟩
   .have HF:Hid (sameF ns (f+1) i j=false):=hid (by rw[C.out];simp[diff,h1]);have h1b:(a.kind==b.kind)=false:=by simpa using h1
    go_wp2;go_ret;rw[HF.out];exact⟨rfl,m.out⟩
def zb0 (o:Option Gr.Dn) (w:World) (e:Ending) (w':World):Prop:=∃x v,e=.returned (.tuple #[v,.bool o.isSome])/\NumVal x v w'/\(∀y,o=some y->x=y)/\Below w.heap.size w w'
theorem zqo {w3 w6:World} {k:Nat} {x:Gr.Dn} {A:Option Addr} {c:Nat} {a b d:Value} (hk:Blk w6 k 86 #[.bool false,.slice none 0 0,.int .i64 0]) (h:NumAt x A c w6) (hlo:w3.heap.size<=k) (hb:Below w3.heap.size w3 w6):
 Blk (((w6.setCell ⟨k,0,none⟩ a).setCell ⟨k,1,none⟩ b).setCell ⟨k,2,none⟩ d) k 86 #[a,b,d]/\NumAt x A c (((w6.setCell ⟨k,0,none⟩ a).setCell ⟨k,1,none⟩ b).setCell ⟨k,2,none⟩ d)/\Below w3.heap.size w3 (((w6.setCell ⟨k,0,none⟩ a).setCell ⟨k,1,none⟩ b).setCell ⟨k,2,none⟩ d)/\w3.heap.size<=k:=
 ⟨((hk.set_ 0 a).set_ 1 b).set_ 2 d,((h.set_ hk (by decide) a).set_ (hk.set_ 0 a) (by decide) b).set_ ((hk.set_ 0 a).set_ 1 b) (by decide) d,((hb.setCell (p:=⟨k,0,none⟩) hlo _).setCell (p:=⟨k,1,none⟩) hlo _).setCell (p:=⟨k,2,none⟩) hlo _,hlo⟩
theorem zkn (neg:Bool) (d:List Nat) (e:Int):(norm neg d e).d.length<=d.length/\((norm neg d e).e=0\/(e<=(norm neg d e).e/\(norm neg d e).e<=e+d.length)):=by
 unfold norm;have a:(d.dropWhile isZ).length<=d.length:=(List.dropWhile_sublist isZ).length_le;have b:=zym (d.dropWhile isZ);split
 .exact⟨Nat.zero_le _,.inl rfl⟩
 .exact⟨Q7 b a,.inr ⟨by simp only;omega,by simp only;omega⟩⟩
theorem zqp {w3 w6:World} {x:Gr.Dn} {A:Option Addr} {c:Nat} {a b d:Value} (h:NumAt x A c w6) (hb:Below w3.heap.size w3 w6):
 Blk (w6.alloc (.cells #[a,b,d] 86)) w6.heap.size 86 #[a,b,d]/\NumAt x A c (w6.alloc (.cells #[a,b,d] 86))/\Below w3.heap.size w3 (w6.alloc (.cells #[a,b,d] 86))/\w3.heap.size<=w6.heap.size:=
 ⟨K8 _ _ _,h.alloc _,hb.alloc hb.size _,hb.size⟩
theorem undrew {w3 w5:World} (h:Below w3.drew.heap.size w3.drew w5):Below w3.heap.size w3 w5:=⟨h.os,h.tape,h.output,h.size,h.block⟩
theorem zgq {w3 w5 w6:World} (h:Below w3.drew.heap.size w3.drew w5) (h2:Below w5.heap.size w5 w6):Below w3.heap.size w3 w6:=(undrew h).trans (h2.mono (undrew h).size)
theorem zw3 {w3 w5:World} (h:Below w3.drew.heap.size w3.drew w5):w3.heap.size<=w5.heap.size:=h.size
theorem zko {w3 w5 w6:World} {o:Obj} (h:Below w3.drew.heap.size w3.drew w5) (h2:Below (w5.alloc o).heap.size (w5.alloc o) w6):Below w3.heap.size w3 w6:=
 ((undrew h).alloc (undrew h).size o).trans (h2.mono (by have:=(undrew h).size;simp;omega))
theorem zkp {w3 w5 w6:World} {o:Obj} (h:Below (w3.alloc o).drew.heap.size (w3.alloc o).drew w5) (h2:Below w5.heap.size w5 w6):Below w3.heap.size w3 w6:=
 ((K4 _ _).alloc (K2 _) o).trans ((zgq h h2).mono (by simp))
theorem zjc {w5 w6:World} (hb6:Below (w5.alloc (.cells #[.bool false,.slice none 0 0,.int .i64 0] 86)).heap.size (w5.alloc (.cells #[.bool false,.slice none 0 0,.int .i64 0] 86)) w6):
 (∀j,w6.frozen? ⟨w5.heap.size,j,none⟩=false)/\w6.cell? ⟨w5.heap.size,0,none⟩=some (.bool false)/\w6.cell? ⟨w5.heap.size,1,none⟩=some (.slice none 0 0)/\w6.cell? ⟨w5.heap.size,2,none⟩=some (.int .i64 0)/\Blk w6 w5.heap.size 86 #[.bool false,.slice none 0 0,.int .i64 0]:=by
 have a:=(K8 w5 86 #[.bool false,.slice none 0 0,.int .i64 0]).below hb6 (by simp);exact⟨a.frozen,a.cell 0,a.cell 1,a.cell 2,a⟩
theorem zt4 {w3 w5 w6:World} (hb5:Below (w3.alloc (.cells #[.bool false,.slice none 0 0,.int .i64 0] 86)).drew.heap.size (w3.alloc (.cells #[.bool false,.slice none 0 0,.int .i64 0] 86)).drew w5) (hb6:Below w5.heap.size w5 w6):
 (∀j,w6.frozen? ⟨w3.heap.size,j,none⟩=false)/\w6.cell? ⟨w3.heap.size,0,none⟩=some (.bool false)/\w6.cell? ⟨w3.heap.size,1,none⟩=some (.slice none 0 0)/\w6.cell? ⟨w3.heap.size,2,none⟩=some (.int .i64 0)/\Blk w6 w3.heap.size 86 #[.bool false,.slice none 0 0,.int .i64 0]:=
 let h5:Below (w3.alloc (.cells #[.bool false,.slice none 0 0,.int .i64 0] 86)).heap.size (w3.alloc (.cells #[.bool false,.slice none 0 0,.int .i64 0] 86)) w5:=⟨hb5.os,hb5.tape,hb5.output,hb5.size,hb5.block⟩
 zjc (h5.trans (hb6.mono h5.size))
theorem zex (w:World):NumVal zeroD (.agg #[.bool false,.slice none 0 0,.int .i64 0]) w:=⟨none,0,rfl,.inl ⟨rfl,rfl,rfl⟩⟩
theorem zkq (s:K7) (c:UInt8):X3 s c=if s.dropWhile (fun x=>x != c)=[]then -1 else((s.takeWhile (fun x=>x != c)).length:Int):=by
 induction s with
 |nil=>rfl
 |cons b l ih=>
  unfold X3;by_cases h:b=c
  .subst h;simp
  .have a:(b==c)=false:=by simpa using h
   have d:(b != c)=true:=by simpa using h
   rw[a,ih,List.dropWhile_cons,List.takeWhile_cons,d];simp only[if_true,Bool.false_eq_true,if_false];split
   .rfl
   .rw[if_neg (by rw[qkq];omega)];simp
theorem zkr (s:K7):readP s=(match s.dropWhile (fun c=>c != 101)with| []=>none|_::r=>if intB (s.takeWhile (fun c=>c != 101))=false\/5<r.length then none else match W7 r with|none=>none|some e=>(let x:=norm ((s.takeWhile (fun c=>c != 101)).head? ==some 45) (vals (intS (s.takeWhile (fun c=>c != 101)))) e;if lim x=0/\X1 x=s then some x else none)):=rfl
theorem zqq {a:K7} (h:intB a=true):U6 a [45]=intS a:=by
 have b:=zdn h;unfold U6 Lib.hasPrefix intS;cases a with
 |nil=>rfl
 |cons c l=>
  by_cases hc:c=45
  .subst hc;cases l with
   |nil=>exact absurd b (by decide)
   |cons d l=>rfl
  .rw[if_neg (by simpa using fun e=>hc e.symm),if_neg (fun e=>hc (by simpa using e.2))]
theorem zqr (s:K7) (hl:s.length<=1073741823) (w:World) (hT:UT w):
 Calls prog 55 #[.string ⟨s.toArray⟩] w (zb0 (readP s) w):=by
 have Q:=hid hT;clear hT;cases hdw:s.dropWhile (fun c=>c != 101)with
 |nil=>
  have HF:Hid (readP s=none):=hid (by unfold readP;rw[hdw]);have G:=hid (fun W=>strings_IndexByte ⟨s.toArray⟩ 101 W);rw[show X3 (⟨s.toArray⟩:ByteArray).data.toList (101:Int).toNat.toUInt8=-1 from by
   have:=zkq s 101;rw[hdw,if_pos rfl]at this;exact this]at G
  clear hdw;go_enter func55,ntmps55;go_upto_region 1 with fail;obtain⟨J,o⟩:=ex (w.alloc (.cells #[.bool false,.slice none 0 0,.int .i64 0] 86))
  obtain⟨f,m⟩:=ex w.heap.size
  have i:Hid (Blk J f 86 #[.bool false,.slice none 0 0,.int .i64 0]/\Below f w J):=hid (by rw[<-o,<-m];exact⟨K8 _ _ _,(K4 _ _).alloc (K2 _) _⟩);have H:Hid (UT J):=hid (Y0 _ _ Q.out (by rw[<-o];exact(K4 _ _).alloc (K2 _) _));have D:=hid m;(try rw[o]);(try rw[m]);clear o m;go_wp2_with fail;refine(G.out _).mono ?_;rintro e w' ⟨rfl,A⟩;rw[A];clear A;have p0:∀j,J.frozen? ⟨f,j,none⟩=false:=i.out.1.frozen;obtain⟨q0,q1,q2⟩:=cells3 i.out.1;go_wp2_with fail;have n:=((i.out.1.set_ 0 (.bool false)).set_ 1 (.slice none 0 0)).set_ 2 (.int .i64 0);have e0:=n.cell 0;have e1:=n.cell 1;have e2:=n.cell 2;refine D3 (v:=.tuple #[.agg #[.bool false,.slice none 0 0,.int .i64 0],.bool false]) (by rw[D4 rfl];go_simp) rfl ?_;rw[HF.out];unfold zb0;rw[D.out];exact⟨zeroD,_,rfl,zex _,fun y h=>(by cases h),((i.out.2.setCell (p:=⟨f,0,none⟩) (by simp) _).setCell (p:=⟨f,1,none⟩) (by simp) _).setCell (p:=⟨f,2,none⟩) (by simp) _⟩
 |cons c0 r=>
  obtain⟨a,ha⟩:=ex (s.takeWhile (fun c=>c != 101))
  have aK:c0=101:=by
   have:=List.head?_dropWhile_not (fun c:UInt8=>c != 101) s;rw[hdw]at this;simpa using this
  have hs:s=a++101::r:=by
   have h:=List.takeWhile_append_dropWhile (p:=fun c:UInt8=>c != 101) (l:=s);rw[ha,hdw,aK]at h;exact h.symm
  have aN:X3 (⟨s.toArray⟩:ByteArray).data.toList (101:Int).toNat.toUInt8=(a.length:Int):=by
   have:=zkq s 101;rw[hdw,if_neg (by simp),ha]at this;exact this
  have aR:s.length=a.length+(r.length+1):=by rw[hs];simp
  have G:=hid (fun W=>strings_IndexByte ⟨s.toArray⟩ 101 W);rw[aN]at G;have R:Hid (readP s=if intB a=false\/5<r.length then none else match W7 r with|none=>none|some e=>(if lim (norm (a.head? ==some 45) (vals (intS a)) e)=0/\X1 (norm (a.head? ==some 45) (vals (intS a)) e)=s then some (norm (a.head? ==some 45) (vals (intS a)) e)else none)):=hid (by rw[zkr,hdw,ha]);have aC:=fun W=>zvq s a.length a.length rfl (by omega) W
  rw[show s.take a.length=a from by rw[hs];simp]at aC;have ak:=hid (fun W=>zyv s (a.length+1) (a.length+1) (by omega) (by omega) W);rw[show s.drop (a.length+1)=r from by rw[hs,<-List.drop_drop];simp]at ak;have aB:a.length<=1073741823:=by omega
  have aW:r.length<=1073741823:=by omega
  have aL:(s.length:Int)=(a.length:Int)+((r.length:Int)+1):=by omega
  have ao:=hid aL;have HS:=hid hs;clear hdw ha aK hs aN aR aL;have HV:=hid (fun W=>zel a aB W);cases hib:intB a with
  |false=>
   rw[hib]at HV R;have HF:Hid (readP s=none):=hid (by rw[R.out,if_pos (.inl rfl)]);clear hib;go_enter func55,ntmps55;go_upto_region 1 with fail;obtain⟨J,o⟩:=ex (w.alloc (.cells #[.bool false,.slice none 0 0,.int .i64 0] 86))
   obtain⟨f,m⟩:=ex w.heap.size
   have i:Hid (Blk J f 86 #[.bool false,.slice none 0 0,.int .i64 0]/\Below f w J):=hid (by rw[<-o,<-m];exact⟨K8 _ _ _,(K4 _ _).alloc (K2 _) _⟩);have H:Hid (UT J):=hid (Y0 _ _ Q.out (by rw[<-o];exact(K4 _ _).alloc (K2 _) _));have D:=hid m;(try rw[o]);(try rw[m]);clear o m;go_wp2_with fail;refine(G.out _).mono ?_;rintro e w' ⟨rfl,A⟩;rw[A];clear A;go_wp2_with fail;refine(HV.out _).mono ?_;rintro e I ⟨rfl,u⟩;have q:Hid (Blk I f 86 #[.bool false,.slice none 0 0,.int .i64 0]/\Below f w I):=hid ⟨i.out.1.below u i.out.1.lt,i.out.2.trans (u.mono (Q0 i.out.1.lt))⟩;have V:Hid (UT I):=hid (Y0 _ _ H.out u);clear u;have p0:∀j,I.frozen? ⟨f,j,none⟩=false:=q.out.1.frozen;obtain⟨q0,q1,q2⟩:=cells3 q.out.1;go_wp2_with fail;have n:=((q.out.1.set_ 0 (.bool false)).set_ 1 (.slice none 0 0)).set_ 2 (.int .i64 0);have e0:=n.cell 0;have e1:=n.cell 1;have e2:=n.cell 2;refine D3 (v:=.tuple #[.agg #[.bool false,.slice none 0 0,.int .i64 0],.bool false]) (by rw[D4 rfl];go_simp) rfl ?_;rw[HF.out];unfold zb0;rw[D.out];exact⟨zeroD,_,rfl,zex _,fun y h=>(by cases h),((q.out.2.setCell (p:=⟨f,0,none⟩) (by simp) _).setCell (p:=⟨f,1,none⟩) (by simp) _).setCell (p:=⟨f,2,none⟩) (by simp) _⟩
  |true=>
   rw[hib]at HV R;have T:=hid hib;clear hib;have ar:(s.length:Int)-(a.length:Int)=(r.length:Int)+1:=by have:=ao.out;omega
   by_cases h5:5<r.length
   .have HF:Hid (readP s=none):=hid (by rw[R.out,if_pos (.inr h5)]);have h6:(6:Int)<(s.length:Int)-(a.length:Int):=by omega
    clear ar;go_enter func55,ntmps55;go_upto_region 1 with fail;obtain⟨J,o⟩:=ex (w.alloc (.cells #[.bool false,.slice none 0 0,.int .i64 0] 86))
    obtain⟨f,m⟩:=ex w.heap.size
    have i:Hid (Blk J f 86 #[.bool false,.slice none 0 0,.int .i64 0]/\Below f w J):=hid (by rw[<-o,<-m];exact⟨K8 _ _ _,(K4 _ _).alloc (K2 _) _⟩);have H:Hid (UT J):=hid (Y0 _ _ Q.out (by rw[<-o];exact(K4 _ _).alloc (K2 _) _));have D:=hid m;(try rw[o]);(try rw[m]);clear o m;go_wp2_with fail;refine(G.out _).mono ?_;rintro e w' ⟨rfl,A⟩;rw[A];clear A;go_wp2_with fail;refine(HV.out _).mono ?_;rintro e I ⟨rfl,u⟩;have q:Hid (Blk I f 86 #[.bool false,.slice none 0 0,.int .i64 0]/\Below f w I):=hid ⟨i.out.1.below u i.out.1.lt,i.out.2.trans (u.mono (Q0 i.out.1.lt))⟩;have V:Hid (UT I):=hid (Y0 _ _ H.out u);clear u;have p0:∀j,I.frozen? ⟨f,j,none⟩=false:=q.out.1.frozen;obtain⟨q0,q1,q2⟩:=cells3 q.out.1;go_wp2_with fail;have n:=((q.out.1.set_ 0 (.bool false)).set_ 1 (.slice none 0 0)).set_ 2 (.int .i64 0);have e0:=n.cell 0;have e1:=n.cell 1;have e2:=n.cell 2;refine D3 (v:=.tuple #[.agg #[.bool false,.slice none 0 0,.int .i64 0],.bool false]) (by rw[D4 rfl];go_simp) rfl ?_;rw[HF.out];unfold zb0;rw[D.out];exact⟨zeroD,_,rfl,zex _,fun y h=>(by cases h),((q.out.2.setCell (p:=⟨f,0,none⟩) (by simp) _).setCell (p:=⟨f,1,none⟩) (by simp) _).setCell (p:=⟨f,2,none⟩) (by simp) _⟩
   .have h6:¬(6:Int)<(s.length:Int)-(a.length:Int):=by omega
    clear ar;cases hat:W7 r with
    |none=>
     have HF:Hid (readP s=none):=hid (by
      rw[R.out,if_neg (by rintro(h|h);cases h;exact h5 h),hat])
     have M:U4 (⟨r.toArray⟩:ByteArray).data.toList=badI:=by
      show U4 r=_;rw[Z6 r (by omega),hat];rfl
     have aj:=hid (fun ev W=>strconv_Atoi_syntax ⟨r.toArray⟩ (by show r.toArray.size<=_;simp;omega) M ev W);have aV:=ak.out;clear M hat;go_enter func55,ntmps55;go_upto_region 1 with fail;obtain⟨J,o⟩:=ex (w.alloc (.cells #[.bool false,.slice none 0 0,.int .i64 0] 86))
     obtain⟨f,m⟩:=ex w.heap.size
     have i:Hid (Blk J f 86 #[.bool false,.slice none 0 0,.int .i64 0]/\Below f w J):=hid (by rw[<-o,<-m];exact⟨K8 _ _ _,(K4 _ _).alloc (K2 _) _⟩);have H:Hid (UT J):=hid (Y0 _ _ Q.out (by rw[<-o];exact(K4 _ _).alloc (K2 _) _));have D:=hid m;(try rw[o]);(try rw[m]);clear o m;go_wp2_with fail;refine(G.out _).mono ?_;rintro e w' ⟨rfl,A⟩;rw[A];clear A;go_wp2_with fail;refine(HV.out _).mono ?_;rintro e I ⟨rfl,u⟩;have q:Hid (Blk I f 86 #[.bool false,.slice none 0 0,.int .i64 0]/\Below f w I):=hid ⟨i.out.1.below u i.out.1.lt,i.out.2.trans (u.mono (Q0 i.out.1.lt))⟩;have V:Hid (UT I):=hid (Y0 _ _ H.out u);clear u;obtain⟨te,pe,aP⟩:=V.out.es;have aO:=hid (aj.out _ I aP (.inr ⟨te,pe,rfl⟩));clear aP;go_wp2_with fail;refine aO.out.mono ?_;rintro e w3 ⟨N,rfl,_,_,n⟩;have F:Hid (Blk w3 f 86 #[.bool false,.slice none 0 0,.int .i64 0]/\Below f w w3):=hid ⟨q.out.1.below n q.out.1.lt,q.out.2.trans (n.mono (Q0 q.out.1.lt))⟩;clear n;have p0:∀j,w3.frozen? ⟨f,j,none⟩=false:=F.out.1.frozen;obtain⟨q0,q1,q2⟩:=cells3 F.out.1;go_wp2_with fail;have n:=((F.out.1.set_ 0 (.bool false)).set_ 1 (.slice none 0 0)).set_ 2 (.int .i64 0);have e0:=n.cell 0;have e1:=n.cell 1;have e2:=n.cell 2;refine D3 (v:=.tuple #[.agg #[.bool false,.slice none 0 0,.int .i64 0],.bool false]) (by rw[D4 rfl];go_simp) rfl ?_;rw[HF.out];unfold zb0;rw[D.out];exact⟨zeroD,_,rfl,zex _,fun y h=>(by cases h),((F.out.2.setCell (p:=⟨f,0,none⟩) (by simp) _).setCell (p:=⟨f,1,none⟩) (by simp) _).setCell (p:=⟨f,2,none⟩) (by simp) _⟩
    |some E=>
     have M:U4 (⟨r.toArray⟩:ByteArray).data.toList=.ok E:=by
      show U4 r=_;rw[Z6 r (by omega),hat];rfl
     have aG:=Lib.atoi_bound hat (by omega);have aj:=hid (fun W=>strconv_Atoi_ok ⟨r.toArray⟩ (by show r.toArray.size<=_;simp;omega) E M W);have HX:Hid (readP s=(if lim (norm (a.head? ==some 45) (vals (intS a)) E)=0/\X1 (norm (a.head? ==some 45) (vals (intS a)) E)=s then some (norm (a.head? ==some 45) (vals (intS a)) E)else none)):=hid (by
      rw[R.out,if_neg (by rintro(h|h);cases h;exact h5 h),hat])
     have aV:=ak.out;have aE:=fun W=>strings_TrimPrefix ⟨a.toArray⟩ ⟨#[45]⟩ W
     rw[show U6 (⟨a.toArray⟩:ByteArray).data.toList (⟨#[45]⟩:ByteArray).data.toList=intS a from zqq T.out]at aE;have aI:=hid aE;have aU:-1000000000000000000<E:=aG.1;have aS:E<1000000000000000000:=aG.2;clear M hat aE aG;go_enter func55,ntmps55;go_upto_region 1 with fail;obtain⟨J,o⟩:=ex (w.alloc (.cells #[.bool false,.slice none 0 0,.int .i64 0] 86))
     obtain⟨f,m⟩:=ex w.heap.size
     have i:Hid (Blk J f 86 #[.bool false,.slice none 0 0,.int .i64 0]/\Below f w J):=hid (by rw[<-o,<-m];exact⟨K8 _ _ _,(K4 _ _).alloc (K2 _) _⟩);have H:Hid (UT J):=hid (Y0 _ _ Q.out (by rw[<-o];exact(K4 _ _).alloc (K2 _) _));have D:=hid m;(try rw[o]);(try rw[m]);clear o m;go_wp2_with fail;refine(G.out _).mono ?_;rintro e w' ⟨rfl,A⟩;rw[A];clear A;go_wp2_with fail;refine(HV.out _).mono ?_;rintro e I ⟨rfl,u⟩;have q:Hid (Blk I f 86 #[.bool false,.slice none 0 0,.int .i64 0]/\Below f w I):=hid ⟨i.out.1.below u i.out.1.lt,i.out.2.trans (u.mono (Q0 i.out.1.lt))⟩;have V:Hid (UT I):=hid (Y0 _ _ H.out u);clear u;go_wp2_with fail;refine(aj.out _).mono ?_;rintro e w3 ⟨rfl,aJ⟩;have n:Below I.heap.size I w3:=by
      rcases aJ with rfl|⟨t,rfl⟩
      .exact K4 _ _
      .exact Lib.bytesWorld_below _ _ _
     have F:Hid (Blk w3 f 86 #[.bool false,.slice none 0 0,.int .i64 0]/\Below f w w3):=hid ⟨q.out.1.below n q.out.1.lt,q.out.2.trans (n.mono (Q0 q.out.1.lt))⟩;have aD:Hid (UT w3):=hid (Y0 _ _ V.out n);clear n aJ;go_wp2_with fail;refine(aI.out _).mono ?_;rintro e w4 ⟨rfl,aT⟩;rw[aT];clear aT aV;go_upto_region 8 with fail;have aX:0<s.length:=by have:=ao.out;omega
     have a0:(0:Int)<(s.length:Int):=by omega
     have ax:a≠[]:=by
      intro e;rw[e]at T;exact absurd T.out (by decide)
     have af:Hid (∀hh,(((((⟨s.toArray⟩:ByteArray)[0]'hh).toNat:Int))==45)=(a.head? ==some 45)):=hid (fun hh=>by
      have hs:=HS.out;obtain⟨c,t,K⟩:∃c t,a=c::t:=by
       cases a with
       |nil=>exact absurd rfl ax
       |cons c t=>exact⟨c,t,rfl⟩
      have h0:s[0]'aX=c:=by simp[hs,K]
      rw[show((⟨s.toArray⟩:ByteArray)[0]'hh)=c from h0,K,W2];constructor
      .intro h;have h1:c=45:=UInt8.toNat_inj.1 (by have:=eq_of_beq h;show c.toNat=45;omega);simp[h1]
      .intro h;have h1:c=45:=by simpa using h
       rw[h1];rfl)
     have ah:(intS a).length<=1073741823:=by
      have:(intS a).length<=a.length:=by unfold intS;split<;>simp
      omega
     have ap:=hid (fun W=>zp9 (intS a) ah (zdn T.out) W);have ag:Hid ((vals (intS a)).length<=1073741823):=hid (by
      simpa[vals]using ah)
     obtain⟨vs,az⟩:=ex (vals (intS a))
     have an:Hid (∀v∈vs,v<10):=hid (by rw[<-az];exact zc9 _ (zdn T.out));rw[az]at ap ag HX;obtain⟨x,hx⟩:=ex (norm (a.head? ==some 45) vs E)
     rw[hx]at HX;have am:=hid hx;have al:Hid (∀(hh) (g:Nat) (W:World) (B:Nat) (_:B<=W.heap.size) (_:RowAt byteL W B (some ⟨g,0,none⟩) (d8 vs)),Calls prog 72 #[.bool (((((⟨s.toArray⟩:ByteArray)[0]'hh).toNat:Int))==45),.slice (some ⟨g,0,none⟩) vs.length vs.length,.int .i64 E] W (zlp x W)):=hid (fun hh g W B hB hr=>by
      rw[af.out hh,<-am.out];exact ztx _ _ _ vs E ag.out (K2 _) an.out (by omega) (by omega) W B hB hr)
     clear az hx ax ah;go_cut [8] (fun s8 wx=>∃(g8 c':Nat) (A':Option Addr),s8=.pointer (some ⟨g8,0,none⟩)/\Hid (Blk wx g8 86 #[.bool x.neg,.slice A' x.d.length c',.int .i64 x.e]/\NumAt x A' c' wx/\Below w3.heap.size w3 wx/\w3.heap.size<=g8))
     case first=>
      clear HX am Q H V aD i q F G HV aI aj aC ak R T ao HS ag an af aU aS h6 h5 hl aB aW D;go_region_with (first
       | (go_at_call 73;(with_reducible refine(ap.out w3.drew).mono ?_);rintro e w5 ⟨g,rfl,a2,U,aA⟩)
       | (go_at_call 73;(with_reducible refine(ap.out (w3.alloc (.cells #[.bool false,.slice none 0 0,.int .i64 0] 86)).drew).mono ?_);rintro e w5 ⟨g,rfl,a2,U,Y⟩)
       | (go_at_call 72;revert Y;intro Y;(with_reducible refine(al.out _ _ w5 (g+1) (X5 U.lt) (X6 U (zat _) (X9 _))).mono ?_);rintro e w6 ⟨v,rfl,⟨A',c',rfl,ai⟩,S⟩;obtain⟨kf,k0,k1,k2,kb⟩:=zt4 Y S)
       | (go_at_call 72;(with_reducible refine(al.out _ _ (w5.alloc (.cells #[.bool false,.slice none 0 0,.int .i64 0] 86)) (g+1) (X5 (U.alloc _).lt) (X6 (U.alloc _) (zat _) (X9 _))).mono ?_);rintro e w6 ⟨v,rfl,⟨A',c',rfl,ai⟩,S⟩;obtain⟨kf,k0,k1,k2,kb⟩:=zjc S)
       | (go_at_call 72;(with_reducible refine(al.out _ _ w5 (g+1) (X5 U.lt) (X6 U (zat _) (X9 _))).mono ?_);rintro e w6 ⟨v,rfl,⟨A',c',rfl,ai⟩,S⟩))
      all_goals go_wp2_with fail
      all_goals go_meet
      all_goals refine⟨_,c',A',rfl,hid ?_⟩
      all_goals first
       |exact zqp ai (zgq aA S)
       |exact zqo kb ai (K2 _) (zkp Y S)
       |exact zqo kb ai (zw3 aA) (zko aA S)
     case rest=>
      obtain⟨g8,c',A',rfl,X⟩:=hcut;go_upto_region 9 with fail;have ad:Hid (Gr.Wf x/\x.d.length<=1073741823/\-9223372036854775808<=x.e/\x.e<=9223372036854775807):=hid (by
       have h1:=zg9 (a.head? ==some 45) vs E an.out;have h2:=zkn (a.head? ==some 45) vs E;have h3:=ag.out;rw[am.out]at h1 h2;exact⟨h1,by omega,by omega,by omega⟩)
      have aZ:Hid (UT wc):=hid (Y0 _ _ aD.out X.out.2.2.1);have ae:Blk wc f 86 #[.bool false,.slice none 0 0,.int .i64 0]:=F.out.1.below X.out.2.2.1 F.out.1.lt;have aM:Below f w wc:=F.out.2.trans (X.out.2.2.1.mono (Q0 F.out.1.lt));have au:g8≠f:=by have:=F.out.1.lt;have:=X.out.2.2.2;omega
      obtain⟨Z,hZ⟩:∃Z:Bool->Array Value,Z=fun b=>cond b #[.bool x.neg,.slice A' x.d.length c',.int .i64 x.e] #[.bool false,.slice none 0 0,.int .i64 0]:=⟨_,rfl⟩
      have O:Hid (Z false=#[.bool false,.slice none 0 0,.int .i64 0]/\Z true=#[.bool x.neg,.slice A' x.d.length c',.int .i64 x.e]):=hid (by rw[hZ];exact⟨rfl,rfl⟩);have ac:Hid (∀(b:Bool) (W:WL f 86 wc (Z b)),Below f w W.w/\UT W.w/\NumAt x A' c' W.w):=hid (fun b W=>by
       have h1:Below f w W.w:=aM.trans (W.h.below (K2 _) (Q0 ae.lt));exact⟨h1,Y0 _ _ Q.out (by rw[D.out];exact h1),X.out.2.1.keep (fun k cs hk=>W.h.blk hk (hk.ne_ ae (by decide)))⟩)
      have aa:Hid (∀W,Calls prog 74 #[.agg #[.bool x.neg,.slice A' x.d.length c',.int .i64 x.e]] W (fun e W'=>e=.returned (.int .i64 (lim x:Nat))/\Below W.heap.size W W')):=hid (fun W=>zqc x A' c' ad.out.2.1 W);have aY:Hid (∀(b:Bool) (W:WL f 86 wc (Z b)),Calls prog 75 #[.agg #[.bool x.neg,.slice A' x.d.length c',.int .i64 x.e]] W.w (fun e W'=>e=.returned (.string ⟨(X1 x).toArray⟩)/\Below W.w.heap.size W.w W')):=hid (fun b W=>zqd x A' c' ad.out.2.1 ad.out.1.lt ad.out.2.2.1 ad.out.2.2.2 W.w (ac.out b W).2.1 (ac.out b W).2.2.row);have ab:Hid (∀(b:Bool) (W:WL f 86 wc (Z b)),W.w.cell? ⟨g8,0,none⟩=some (.bool x.neg)/\W.w.cell? ⟨g8,1,none⟩=some (.slice A' x.d.length c')/\W.w.cell? ⟨g8,2,none⟩=some (.int .i64 x.e)):=hid (fun b W=>by
       have h1:=W.h.blk X.out.1 au;exact⟨h1.cell 0,h1.cell 1,h1.cell 2⟩)
      have av:(X1 x==s)=decide (X1 x=s):=by rw[W2];simp
      have ay:Hid (∃y:WL f 86 wc (Z false),{wc with drawn:=wc.drawn+1}=y.w):=hid ⟨⟨wc.drew,(U7 f wc).drewN 1,by rw[O.out.1];exact ae.drew⟩,rfl⟩;have aQ:Hid (∀b,Nonempty (WL f 86 wc (Z b))):=hid (fun b=>by
       cases b with
       |false=>obtain⟨y,_⟩:=ay.out;exact⟨y⟩
       |true=>exact⟨⟨((wc.setCell ⟨f,0,none⟩ (.bool x.neg)).setCell ⟨f,1,none⟩ (.slice A' x.d.length c')).setCell ⟨f,2,none⟩ (.int .i64 x.e),(((U7 f wc).set 0 _).set 1 _).set 2 _,by rw[O.out.2];exact((ae.set_ 0 _).set_ 1 _).set_ 2 _⟩⟩)
      have aw:Hid (∀y:WL f 86 wc (Z false),∃z:WL f 86 wc (Z true),z.w=((y.w.setCell ⟨f,0,none⟩ (.bool x.neg)).setCell ⟨f,1,none⟩ (.slice A' x.d.length c')).setCell ⟨f,2,none⟩ (.int .i64 x.e)):=hid (fun y=>by
       have h1:Blk y.w f 86 #[.bool false,.slice none 0 0,.int .i64 0]:=O.out.1▸y.hc;exact⟨⟨_,((y.h.set 0 _).set 1 _).set 2 _,by rw[O.out.2];exact((h1.set_ 0 _).set_ 1 _).set_ 2 _⟩,rfl⟩)
      obtain⟨L,hL⟩:=ex (lim x)
      rw[hL]at aa HX;clear hL hZ ae aM au;obtain⟨Li,aH⟩:∃Li:Int,(L:Int)=Li:=⟨_,rfl⟩
      rw[aH]at aa;have aq:=hid aH;clear aH;clear aZ ad X aD F am al ap ag an af G HV aI aj aC ak R T ao HS H i V q Q aU aS a0 aX h6 h5 hl aB aW;by_cases hL0:Li=0
      .subst hL0;obtain rfl:L=0:=by have:=aq.out;omega
       clear aq;obtain⟨ct,K⟩:=ex (decide (X1 x=s))
       rw[K]at av;have P:Hid ((readP s).isSome=ct/\∀y,readP s=some y->x=y):=hid (by
        rw[HX.out,<-K];by_cases h:X1 x=s
        .rw[if_pos ⟨rfl,h⟩];exact⟨by simp[h],fun y hy=>by injection hy⟩
        .rw[if_neg (fun e=>h e.2)];exact⟨by simp[h],fun y hy=>by cases hy⟩)
       clear K HX;refine zbd (aF:=?aF) 10 (by kernel_rfl) _ rfl rfl rfl rfl rfl (by kernel_rfl) (by kernel_rfl) (by kernel_rfl) (by kernel_rfl) (by kernel_rfl) (fun b W=>∃y:WL f 86 wc (Z b),W=y.w) ay.out (fun b=>?h1) ?h2 ?h3
       case h1=>
        have p0:=fun W=>(ab.out b W).1
        have p1:=fun W=>(ab.out b W).2.1
        have p2:=fun W=>(ab.out b W).2.2
        have a1:=aQ.out b;simp only[Z2,Z1,nopOf,Y4,Y1,Q6]
        repeat (go_big_quiet_step ((first| (with_reducible refine U5 (aa.out _))| (with_reducible refine U5 (aY.out _ _)))))
        refine wpQuiet_nil ?_;rfl
       case h2=>
        rintro _ ⟨y,rfl⟩;obtain⟨z,hz⟩:=aw.out y;have C:Blk y.w f 86 #[.bool false,.slice none 0 0,.int .i64 0]:=O.out.1▸y.hc;have f0:∀j,y.w.frozen? ⟨f,j,none⟩=false:=C.frozen;obtain⟨c0,c1,c2⟩:=cells3 C;refine⟨z.w,?_,z,rfl⟩;rw[hz];simp only[Y4,Y1,Q6];go_simp
       case h3=>
        rintro _ ⟨y,rfl⟩;have C:Blk y.w f 86 #[.bool x.neg,.slice A' x.d.length c',.int .i64 x.e]:=O.out.2▸y.hc;have e0:=C.cell 0;have e1:=C.cell 1;have e2:=C.cell 2;go_wp2_with fail;refine D3 (v:=.tuple #[.agg #[.bool x.neg,.slice A' x.d.length c',.int .i64 x.e],.bool ct]) (by rw[D4 rfl];go_simp) rfl ?_;unfold zb0;rw[D.out,P.out.1];exact⟨x,_,rfl,⟨A',c',rfl,(ac.out true y).2.2⟩,P.out.2,(ac.out true y).1⟩
      .have hz0:(Li==0)=false:=by simpa using hL0
       obtain⟨ct,K⟩:=ex false
       have P:Hid ((readP s).isSome=ct/\∀y,readP s=some y->x=y):=hid (by
        rw[HX.out,if_neg (fun e=>hL0 (by have:=aq.out;omega))];exact⟨K,fun y hy=>by cases hy⟩)
       subst K;clear aq HX av;refine zbd (aF:=?aF2) 10 (by kernel_rfl) _ rfl rfl rfl rfl rfl (by kernel_rfl) (by kernel_rfl) (by kernel_rfl) (by kernel_rfl) (by kernel_rfl) (fun b W=>∃y:WL f 86 wc (Z b),W=y.w) ay.out (fun b=>?h1) ?h2 ?h3
       case h1=>
        have p0:=fun W=>(ab.out b W).1
        have p1:=fun W=>(ab.out b W).2.1
        have p2:=fun W=>(ab.out b W).2.2
        have a1:=aQ.out b;simp only[Z2,Z1,nopOf,Y4,Y1,Q6]
        repeat (go_big_quiet_step ((first| (with_reducible refine U5 (aa.out _))| (with_reducible refine U5 (aY.out _ _)))))
        refine wpQuiet_nil ?_;rfl
       case h2=>
        rintro _ ⟨y,rfl⟩;obtain⟨z,hz⟩:=aw.out y;have C:Blk y.w f 86 #[.bool false,.slice none 0 0,.int .i64 0]:=O.out.1▸y.hc;have f0:∀j,y.w.frozen? ⟨f,j,none⟩=false:=C.frozen;obtain⟨c0,c1,c2⟩:=cells3 C;refine⟨z.w,?_,z,rfl⟩;rw[hz];simp only[Y4,Y1,Q6];go_simp
       case h3=>
        rintro _ ⟨y,rfl⟩;have C:Blk y.w f 86 #[.bool x.neg,.slice A' x.d.length c',.int .i64 x.e]:=O.out.2▸y.hc;have e0:=C.cell 0;have e1:=C.cell 1;have e2:=C.cell 2;go_wp2_with fail;refine D3 (v:=.tuple #[.agg #[.bool x.neg,.slice A' x.d.length c',.int .i64 x.e],.bool false]) (by rw[D4 rfl];go_simp) rfl ?_;unfold zb0;rw[D.out,P.out.1];exact⟨x,_,rfl,⟨A',c',rfl,(ac.out true y).2.2⟩,P.out.2,(ac.out true y).1⟩
 end Go.Proofs.YtpgmfihonmoliabGreatDoor
namespace Go.Proofs.YtpgmfihonmoliabGreatDoor
open Gr
open _root_.Go.Proofs.Tryz
open _root_.Go.Lib (hid)
set_option maxRecDepth 100000
set_option maxHeartbeats 16000000
open Go.RowKit
theorem zds (date time zone:Bool) (y m d h mi c nanos:Nat) (off:Int) (late:Bool) (hy:y<=999999999) (hm:m<=999999999) (hd:d<=999999999) (hh:h<=999999999) (hmi:mi<=999999999) (hc:c<=999999999) (hn:nanos<=999999999) (w:World):
 Calls prog 159 #[.agg #[.bool date,.bool time,.bool zone,.int .i64 (y:Int),.int .i64 (m:Int),.int .i64 (d:Int),.int .i64 (h:Int),.int .i64 (mi:Int),.int .i64 (c:Int),.int .i64 (nanos:Int),.int .i64 off,.bool late]] w fun e w'=>e=.returned (.string ⟨((if date=true then dateS y m d else[])++(if(date && time)=true then[84]else[])++(if time=true then clkS h mi c nanos else[])++(if zone=true then[90]else[]):K7).toArray⟩)/\Below w.heap.size w w':=by
 have N:=hid (fun W=>zcg y 4 (y:Int) 4 rfl rfl (by omega) (by omega) W);have au:=za9 4 y;have T:=hid (fun W=>zcg m 2 (m:Int) 2 rfl rfl (by omega) (by omega) W);have aG:=za9 2 m;have X:=hid (fun W=>zcg d 2 (d:Int) 2 rfl rfl (by omega) (by omega) W);have ah:=za9 2 d;have Z:=hid (fun W=>zcg h 2 (h:Int) 2 rfl rfl (by omega) (by omega) W);have aw:=za9 2 h;have ad:=hid (fun W=>zcg mi 2 (mi:Int) 2 rfl rfl (by omega) (by omega) W);have aq:=za9 2 mi;have ac:=hid (fun W=>zcg c 2 (c:Int) 2 rfl rfl (by omega) (by omega) W);have ax:=za9 2 c;have ap:=hid (fun W=>zcg nanos 9 (nanos:Int) 9 rfl rfl (by omega) (by omega) W);have aD:=za9 9 nanos;obtain⟨py,ae⟩:=ex (V7 4 y)
 rw[ae]at N au;obtain⟨pm,M⟩:=ex (V7 2 m)
 rw[M]at T aG;obtain⟨pd,Q⟩:=ex (V7 2 d)
 rw[Q]at X ah;obtain⟨ph,O⟩:=ex (V7 2 h)
 rw[O]at Z aw;obtain⟨pi,ab⟩:=ex (V7 2 mi)
 rw[ab]at ad aq;obtain⟨pc,ag⟩:=ex (V7 2 c)
 rw[ag]at ac ax;obtain⟨K,A⟩:=ex (V7 9 nanos)
 rw[A]at ap aD;have C:Hid (dateS y m d=py++[45]++pm++[45]++pd/\clkS h mi c nanos=ph++[58]++pi++[58]++pc++(if nanos=0 then([]:K7)else 46::trimZ K)/\V7 9 nanos=K):=hid ⟨by simp only[dateS,ae,M,Q];simp,by simp only[clkS,nanoS,O,ab,ag,A];simp,A⟩;clear ae M Q O ab ag A;obtain⟨r,hr⟩:∃r:K7,((if date=true then dateS y m d else[])++(if(date && time)=true then[84]else[])++(if time=true then clkS h mi c nanos else[])++(if zone=true then[90]else[]))=r:=⟨_,rfl⟩
 have aK:=hid hr;rw[hr];clear hr;obtain⟨p,D⟩:=ex w.heap.size
 obtain⟨a,P⟩:∃a,a=w.alloc (.cells #[.bool date,.bool time,.bool zone,.int .i64 (y:Int),.int .i64 (m:Int),.int .i64 (d:Int),.int .i64 (h:Int),.int .i64 (mi:Int),.int .i64 (c:Int),.int .i64 (nanos:Int),.int .i64 off,.bool late] 164):=⟨_,rfl⟩
 have b:Hid (Blk a p 164 (T12 date time zone (y:Int) (m:Int) (d:Int) (h:Int) (mi:Int) (c:Int) (nanos:Int) off late)/\Below p w a):=hid (by rw[P,<-D];exact⟨K8 _ _ _,(K4 _ _).alloc (K2 _) _⟩);have aT:=hid D;have al:Hid (∀W:WB a.heap.size a,Calls prog 189 #[.int .i64 (y:Int),.int .i64 4] W.w fun e w'=>e=.returned (.string ⟨py.toArray⟩)/\Below a.heap.size a w'):=hid (fun W=>(N.out W.w).mono (fun _ _ ⟨s,q⟩=>⟨s,W.h.trans (q.mono W.h.size)⟩));have ay:Hid (∀W:WB a.heap.size a,Calls prog 189 #[.int .i64 (m:Int),.int .i64 2] W.w fun e w'=>e=.returned (.string ⟨pm.toArray⟩)/\Below a.heap.size a w'):=hid (fun W=>(T.out W.w).mono (fun _ _ ⟨s,q⟩=>⟨s,W.h.trans (q.mono W.h.size)⟩));have aB:Hid (∀W:WB a.heap.size a,Calls prog 189 #[.int .i64 (d:Int),.int .i64 2] W.w fun e w'=>e=.returned (.string ⟨pd.toArray⟩)/\Below a.heap.size a w'):=hid (fun W=>(X.out W.w).mono (fun _ _ ⟨s,q⟩=>⟨s,W.h.trans (q.mono W.h.size)⟩));have ao:Hid (∀W:WB a.heap.size a,Calls prog 189 #[.int .i64 (h:Int),.int .i64 2] W.w fun e w'=>e=.returned (.string ⟨ph.toArray⟩)/\Below a.heap.size a w'):=hid (fun W=>(Z.out W.w).mono (fun _ _ ⟨s,q⟩=>⟨s,W.h.trans (q.mono W.h.size)⟩));have aM:Hid (∀W:WB a.heap.size a,Calls prog 189 #[.int .i64 (mi:Int),.int .i64 2] W.w fun e w'=>e=.returned (.string ⟨pi.toArray⟩)/\Below a.heap.size a w'):=hid (fun W=>(ad.out W.w).mono (fun _ _ ⟨s,q⟩=>⟨s,W.h.trans (q.mono W.h.size)⟩));have aA:Hid (∀W:WB a.heap.size a,Calls prog 189 #[.int .i64 (c:Int),.int .i64 2] W.w fun e w'=>e=.returned (.string ⟨pc.toArray⟩)/\Below a.heap.size a w'):=hid (fun W=>(ac.out W.w).mono (fun _ _ ⟨s,q⟩=>⟨s,W.h.trans (q.mono W.h.size)⟩));clear N T X Z ad ac;go_enter func159,ntmps159;go_upto_region 2 with fail;(try rw[<-P]);(try rw[D]);clear P D;have q0:a.cell? ⟨p,0,none⟩=some (.bool date):=(b.out.1.below (K4 _ _) b.out.1.lt).cell 0;go_upto_if 6 with fail;go_cut [3] (fun s3 wx=>∃S:K7,s3=.string ⟨S.toArray⟩/\S.length<=60/\Hid (S=(if date=true then dateS y m d else[])/\Below a.heap.size a wx))
 case first=>
  cases date with
  |true=>
   go_upto_region 3 with fail;clear q0;have p3:∀W:WB a.heap.size a,W.w.cell? ⟨p,3,none⟩=some (.int .i64 (y:Int)):=fun W=>(b.out.1.below W.h b.out.1.lt).cell 3
   have p4:∀W:WB a.heap.size a,W.w.cell? ⟨p,4,none⟩=some (.int .i64 (m:Int)):=fun W=>(b.out.1.below W.h b.out.1.lt).cell 4
   have p5:∀W:WB a.heap.size a,W.w.cell? ⟨p,5,none⟩=some (.int .i64 (d:Int)):=fun W=>(b.out.1.below W.h b.out.1.lt).cell 5
   obtain⟨s1,F⟩:∃x:K7,py++[45]=x:=⟨_,rfl⟩
   have Ls1:s1.length<=20:=by rw[<-F];simp<;>omega
   have a9:=fun W=>zad py [45] (by first|omega| (simp<;>omega)) W
   rw[F]at a9;have a2:=hid F;clear F;obtain⟨s2,t⟩:∃x:K7,s1++pm=x:=⟨_,rfl⟩
   have Ls2:s2.length<=30:=by rw[<-t];simp<;>omega
   have aW:=fun W=>zad s1 pm (by first|omega| (simp<;>omega)) W
   rw[t]at aW;have a0:=hid t;clear t;obtain⟨s3,G⟩:∃x:K7,s2++[45]=x:=⟨_,rfl⟩
   have Ls3:s3.length<=40:=by rw[<-G];simp<;>omega
   have aV:=fun W=>zad s2 [45] (by first|omega| (simp<;>omega)) W
   rw[G]at aV;have a3:=hid G;clear G;obtain⟨s4,u⟩:∃x:K7,s3++pd=x:=⟨_,rfl⟩
   have aS:s4.length<=60:=by rw[<-u];simp<;>omega
   have a1:=fun W=>zad s3 pd (by first|omega| (simp<;>omega)) W
   rw[u]at a1;have a7:=hid u;clear u;refine zac a.heap.size a (by kernel_rfl) (by kernel_rfl) (K4 _ _) ?_
   iterate 14 (try go_big_quiet_step ((first| (with_reducible refine Q5 (al.out _))| (with_reducible refine Q5 (ay.out _))| (with_reducible refine Q5 (aB.out _)))))
   refine wpQuiet_nil ?_;rintro _ ⟨wz,rfl⟩;go_wp2;go_meet;exact⟨s4,rfl,aS,hid ⟨by rw[if_pos trivial,C.out.1,<-a7.out,<-a3.out,<-a0.out,<-a2.out],wz.h⟩⟩
  |false=>
   go_wp2;go_meet;exact⟨[],rfl,by simp,hid ⟨rfl,K4 _ _⟩⟩
 case rest=>
 obtain⟨S,rfl,hS,HS⟩:=hcut;clear q0;obtain⟨q0,q1⟩:=cells2 (b.out.1.below HS.out.2 b.out.1.lt);go_upto_region 4 with fail;obtain⟨Y,af⟩:∃Y,Y=wc:=⟨_,rfl⟩
 subst af;go_cut [25] (fun s25 wx=>s25=.bool (date && time)/\wx=Y)
 case first=>
  cases date<;>cases time
  all_goals
   go_wp2;go_meet;exact⟨rfl,rfl⟩
 case rest=>
 obtain⟨rfl,rfl⟩:=hcut;obtain⟨Y,af⟩:∃Y,Y=wc:=⟨_,rfl⟩
 subst af;go_upto_if 25 with fail;obtain⟨dt,aa⟩:=ex (date && time)
 have aj:=hid aa;(try rw[aa]);clear aa;go_cut [3] (fun s3 wx=>∃U:K7,s3=.string ⟨U.toArray⟩/\U.length<=61/\Hid (U=S++(if(date && time)=true then[84]else[])/\wx=Y))
 case first=>
  cases dt with
  |true=>
   obtain⟨s5,E⟩:∃x:K7,S++[84]=x:=⟨_,rfl⟩
   have aP:s5.length<=61:=by rw[<-E];simp<;>omega
   have aQ:=fun W=>zad S [84] (by first|omega| (simp<;>omega)) W
   rw[E]at aQ;have aX:=hid E;clear E;go_wp2;go_meet;exact⟨s5,rfl,aP,hid ⟨by rw[aj.out,if_pos rfl,aX.out],rfl⟩⟩
  |false=>
   go_wp2;go_meet;exact⟨S,rfl,by omega,hid ⟨by rw[aj.out];simp,rfl⟩⟩
 case rest=>
 obtain⟨U,rfl,hU,HU⟩:=hcut;obtain⟨wm,aY⟩:∃wm,wm=wc:=⟨_,rfl⟩
 subst aY;have R:Hid (Below a.heap.size a wm):=hid (by rw[HU.out.2];exact HS.out.2);clear q0 q1;have q1:wm.cell? ⟨p,1,none⟩=some (.bool time):=(b.out.1.below R.out b.out.1.lt).cell 1;go_upto_region 6 with fail;go_upto_if 29 with fail;go_cut [3] (fun s3 wx=>∃V:K7,s3=.string ⟨V.toArray⟩/\V.length<=200/\Hid (V=U++(if time=true then clkS h mi c nanos else[])/\Below a.heap.size a wx))
 case first=>
  cases time with
  |false=>
   go_wp2;go_meet;exact⟨U,rfl,by omega,hid ⟨by simp,R.out⟩⟩
  |true=>
   go_upto_region 7 with fail;clear q1;have p6:∀W:WB a.heap.size a,W.w.cell? ⟨p,6,none⟩=some (.int .i64 (h:Int)):=fun W=>(b.out.1.below W.h b.out.1.lt).cell 6
   have p7:∀W:WB a.heap.size a,W.w.cell? ⟨p,7,none⟩=some (.int .i64 (mi:Int)):=fun W=>(b.out.1.below W.h b.out.1.lt).cell 7
   have p8:∀W:WB a.heap.size a,W.w.cell? ⟨p,8,none⟩=some (.int .i64 (c:Int)):=fun W=>(b.out.1.below W.h b.out.1.lt).cell 8
   obtain⟨s6,H⟩:∃x:K7,U++ph=x:=⟨_,rfl⟩
   have Ls6:s6.length<=80:=by rw[<-H];simp<;>omega
   have ai:=fun W=>zad U ph (by first|omega| (simp<;>omega)) W
   rw[H]at ai;have a6:=hid H;clear H;obtain⟨s7,z⟩:∃x:K7,s6++[58]=x:=⟨_,rfl⟩
   have Ls7:s7.length<=90:=by rw[<-z];simp<;>omega
   have aF:=fun W=>zad s6 [58] (by first|omega| (simp<;>omega)) W
   rw[z]at aF;have a8:=hid z;clear z;obtain⟨s8,v⟩:∃x:K7,s7++pi=x:=⟨_,rfl⟩
   have Ls8:s8.length<=110:=by rw[<-v];simp<;>omega
   have aC:=fun W=>zad s7 pi (by first|omega| (simp<;>omega)) W
   rw[v]at aC;have aU:=hid v;clear v;obtain⟨s9,B⟩:∃x:K7,s8++[58]=x:=⟨_,rfl⟩
   have Ls9:s9.length<=120:=by rw[<-B];simp<;>omega
   have aJ:=fun W=>zad s8 [58] (by first|omega| (simp<;>omega)) W
   rw[B]at aJ;have a4:=hid B;clear B;obtain⟨s10,j⟩:∃x:K7,s9++pc=x:=⟨_,rfl⟩
   have Ls10:s10.length<=140:=by rw[<-j];simp<;>omega
   have I:=fun W=>zad s9 pc (by first|omega| (simp<;>omega)) W
   rw[j]at I;have aL:=hid j;clear j;refine zac a.heap.size a (by kernel_rfl) (by kernel_rfl) R.out ?_
   iterate 16 (try go_big_quiet_step ((first| (with_reducible refine Q5 (ao.out _))| (with_reducible refine Q5 (aM.out _))| (with_reducible refine Q5 (aA.out _)))))
   refine wpQuiet_nil ?_;rintro _ ⟨wy,rfl⟩;have ar:Hid (U++clkS h mi c nanos=s10++(if nanos=0 then([]:K7)else 46::trimZ K)):=hid (by rw[C.out.2.1,<-aL.out,<-a4.out,<-aU.out,<-a8.out,<-a6.out];simp);clear p6 p7 p8 ai aF aC aJ I;have q9:wy.w.cell? ⟨p,9,none⟩=some (.int .i64 (nanos:Int)):=(b.out.1.below wy.h b.out.1.lt).cell 9;go_wp2_with fail;refine(ap.out _).mono ?_;rintro e w5 ⟨rfl,am⟩;have ak:Hid (Below a.heap.size a w5):=hid (wy.h.trans (am.mono wy.h.size));clear am q9;go_wp2_with fail;go_loop [4] (fun s4=>∃f:K7,s4=.string ⟨f.toArray⟩/\f.length<=9/\Hid (trimZ f=trimZ K)) (fun s4=>match s4 with| .string x=>x.size|_=>0)
   case atStart=>exact⟨K,rfl,by omega,hid rfl⟩
   case round=>
    obtain⟨f,rfl,az,L⟩:=hrel;rcases List.eq_nil_or_concat f with rfl|⟨g,ch,hfg⟩
    .have HE:Hid (U++clkS h mi c nanos=s10):=hid (by
      rw[ar.out];have h1:=L.out;rw[show(if nanos=0 then([]:K7)else 46::trimZ K)=[]from by
       by_cases h0:nanos=0
       .rw[if_pos h0]
       .exact absurd h1.symm (by rw[<-C.out.2.2];exact zqj 9 nanos (by omega) (by omega))]
      simp)
     go_wp2;go_meet;exact⟨s10,rfl,by omega,hid ⟨by rw[if_pos trivial,HE.out],ak.out⟩⟩
    .have hF:f=g++[ch]:=by rw[hfg];simp
     have hgl:g.length<=8:=by rw[hF]at az;simp at az;omega
     have hg2:(f.length:Int)-1=(g.length:Int):=by rw[hF];simp
     have i:g.length<f.length:=by rw[hF];simp
     have o:f[g.length]'i=ch:=by
      have:∀l:K7,l=g++[ch]->∀h,l[g.length]'h=ch:=by rintro _ rfl h;simp
      exact this f hF i
     have hcut:=fun W=>zvq f g.length (g.length:Int) rfl (Q0 i) W
     rw[show f.take g.length=g from by rw[hF];simp]at hcut;have an:Hid (trimZ f=if ch=48 then trimZ g else f):=hid (by rw[hF];exact zgp g ch);clear hF hfg;have hF0:(0:Int)<(f.length:Int):=by omega
     have J:0<f.length:=by omega
     by_cases hz:ch=48
     .have a5:=zaz f g.length i ch 48 48 (by decide) o hz;have aZ:=zaq f g.length i ch 48 48 (by decide) o hz;have aR:Hid (trimZ g=trimZ K):=hid (by rw[<-L.out,an.out,if_pos hz]);have hms:g.length<f.length:=i;clear o hz;go_wp2;go_round
      case rel=>exact⟨g,rfl,by omega,aR⟩
      case measure=>simp[ByteArray.size];omega
     .have a5:=zao f g.length i ch 48 48 (by decide) o hz;have aZ:=zar f g.length i ch 48 48 (by decide) o hz;have aN:Hid (trimZ K=f):=hid (by rw[<-L.out,an.out,if_neg hz]);clear o hz hcut;obtain⟨s11,n⟩:∃x:K7,s10++[46]=x:=⟨_,rfl⟩
      have Ls11:s11.length<=150:=by rw[<-n];simp<;>omega
      have aI:=fun W=>zad s10 [46] (by first|omega| (simp<;>omega)) W
      rw[n]at aI;have aE:=hid n;clear n;obtain⟨s12,k⟩:∃x:K7,s11++f=x:=⟨_,rfl⟩
      have Ls12:s12.length<=170:=by rw[<-k];simp<;>omega
      have aH:=fun W=>zad s11 f (by first|omega| (simp<;>omega)) W
      rw[k]at aH;have av:=hid k;clear k;have HE:Hid (U++clkS h mi c nanos=s12):=hid (by
       rw[ar.out,<-av.out,<-aE.out];have aO:¬nanos=0:=fun h0=>by
        have h1:=C.out.2.2;rw[h0,zqh]at h1;have h2:=aN.out;rw[<-h1,zna]at h2;rw[<-h2]at J;simp at J
       rw[if_neg aO,aN.out];simp)
      go_wp2;go_meet;exact⟨s12,rfl,by omega,hid ⟨by rw[if_pos trivial,HE.out],ak.out⟩⟩
 case rest=>
 obtain⟨V,rfl,hV,L⟩:=hcut;clear q1;have q2:wc.cell? ⟨p,2,none⟩=some (.bool zone):=(b.out.1.below L.out.2 b.out.1.lt).cell 2;have b2:=fun W=>zad V [90] (by first|omega| (simp<;>omega)) W
 have HZ:Hid (Below w.heap.size w wc):=hid (by rw[aT.out];exact b.out.2.trans (L.out.2.mono (Q0 b.out.1.lt)));cases zone with
 |true=>
  have HE:Hid (r=V++[90]):=hid (by rw[<-aK.out,L.out.1,HU.out.1,HS.out.1];rfl);go_wp2;go_ret;exact⟨by rw[HE.out]<;>rfl,HZ.out⟩
 |false=>
  have HE:Hid (r=V):=hid (by rw[<-aK.out,L.out.1,HU.out.1,HS.out.1];simp);go_wp2;go_ret;exact⟨by rw[HE.out]<;>rfl,HZ.out⟩
theorem zq8 (y m d h mi c nanos:Nat) (off:Int) (late:Bool) (hy:y<=999999999) (hm:m<=999999999) (hd:d<=999999999) (hh:h<=999999999) (hmi:mi<=999999999) (hc:c<=999999999) (hn:nanos<=999999999) (w:World):
 Calls prog 159 #[.agg #[.bool true,.bool false,.bool false,.int .i64 (y:Int),.int .i64 (m:Int),.int .i64 (d:Int),.int .i64 (h:Int),.int .i64 (mi:Int),.int .i64 (c:Int),.int .i64 (nanos:Int),.int .i64 off,.bool late]] w fun e w'=>e=.returned (.string ⟨(dateS y m d:K7).toArray⟩)/\Below w.heap.size w w':=by
 simpa using zds true false false y m d h mi c nanos off late hy hm hd hh hmi hc hn w
theorem zq9 (y m d h mi c nanos:Nat) (off:Int) (late:Bool) (hy:y<=999999999) (hm:m<=999999999) (hd:d<=999999999) (hh:h<=999999999) (hmi:mi<=999999999) (hc:c<=999999999) (hn:nanos<=999999999) (w:World):
 Calls prog 159 #[.agg #[.bool false,.bool true,.bool false,.int .i64 (y:Int),.int .i64 (m:Int),.int .i64 (d:Int),.int .i64 (h:Int),.int .i64 (mi:Int),.int .i64 (c:Int),.int .i64 (nanos:Int),.int .i64 off,.bool late]] w fun e w'=>e=.returned (.string ⟨(clkS h mi c nanos:K7).toArray⟩)/\Below w.heap.size w w':=by
 simpa using zds false true false y m d h mi c nanos off late hy hm hd hh hmi hc hn w
theorem zra (y m d h mi c nanos:Nat) (off:Int) (late:Bool) (hy:y<=999999999) (hm:m<=999999999) (hd:d<=999999999) (hh:h<=999999999) (hmi:mi<=999999999) (hc:c<=999999999) (hn:nanos<=999999999) (w:World):
 Calls prog 159 #[.agg #[.bool true,.bool true,.bool false,.int .i64 (y:Int),.int .i64 (m:Int),.int .i64 (d:Int),.int .i64 (h:Int),.int .i64 (mi:Int),.int .i64 (c:Int),.int .i64 (nanos:Int),.int .i64 off,.bool late]] w fun e w'=>e=.returned (.string ⟨((dateS y m d++[84]++clkS h mi c nanos):K7).toArray⟩)/\Below w.heap.size w w':=by
 simpa using zds true true false y m d h mi c nanos off late hy hm hd hh hmi hc hn w
theorem zrb (y m d h mi c nanos:Nat) (off:Int) (late:Bool) (hy:y<=999999999) (hm:m<=999999999) (hd:d<=999999999) (hh:h<=999999999) (hmi:mi<=999999999) (hc:c<=999999999) (hn:nanos<=999999999) (w:World):
 Calls prog 159 #[.agg #[.bool true,.bool true,.bool true,.int .i64 (y:Int),.int .i64 (m:Int),.int .i64 (d:Int),.int .i64 (h:Int),.int .i64 (mi:Int),.int .i64 (c:Int),.int .i64 (nanos:Int),.int .i64 off,.bool late]] w fun e w'=>e=.returned (.string ⟨((dateS y m d++[84]++clkS h mi c nanos++[90]):K7).toArray⟩)/\Below w.heap.size w w':=by
 simpa using zds true true true y m d h mi c nanos off late hy hm hd hh hmi hc hn w
end Go.Proofs.YtpgmfihonmoliabGreatDoor

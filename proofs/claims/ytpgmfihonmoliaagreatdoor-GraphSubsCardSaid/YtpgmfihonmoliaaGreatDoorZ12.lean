import Derived.Test.YtpgmfihonmoliaaGreatDoorZ10
namespace Go.Proofs.YtpgmfihonmoliaaGreatDoor
open Gr
open _root_.Go.Proofs.Tryz
open _root_.Go.Lib (hid)
set_option maxRecDepth 100000
set_option maxHeartbeats 16000000
open Go.RowKit
structure DepF (w:World) (gb rC rB:Nat) (A Az:Option Addr) (c:Nat) (root:Int) (vs:List NV) (ns:List Gr.Nd) (inn:List Int) (sizes:List Nat):Prop where
 bg:Blk w gb 24 #[.slice A ns.length c,.int .i64 root]
 lg:gb<rB
 bc:Blk w rC 3 (jcells inn)
 lc:rC<rB
 rz:RowAt intL w rB Az sizes
 at_:GAt w rB A vs ns
theorem DepF.below {w w':World} {gb rC rB:Nat} {A Az:Option Addr} {c:Nat} {root:Int} {vs:List NV} {ns:List Gr.Nd} {inn:List Int} {sizes:List Nat} (h:DepF w gb rC rB A Az c root vs ns inn sizes) (hb:Below rB w w'):DepF w' gb rC rB A Az c root vs ns inn sizes:=
 ⟨h.bg.below hb h.lg,h.lg,h.bc.below hb h.lc,h.lc,h.rz.below hb,h.at_.below hb⟩
theorem zvb (t:Gr.TS) (v:Nat):t.cn v=t.inn.getD v (-1):=rfl
theorem zho (A:Option Addr) (c root:Nat) (vs:List NV) (ns:List Gr.Nd) (hr:Refs ns) (hl:ns.length<=1073741823) (hks:∀n∈ns,n.keys.length<=1073741823/\n.items.length<=1073741823) (hroot:root<ns.length)
 (hall:∀v,v<ns.length->Gr.Reach (Gr.succ ns) root v) (w:World) (h:GAt w w.heap.size A vs ns):
 Calls prog 25 #[.agg #[.slice A ns.length c,.int .i64 root]] w fun e w'=>e=.returned (.tuple #[.int .i64 (depth ns root).1,.bool (depth ns root).2])/\Below w.heap.size w w':=by
 obtain⟨hC,aK,ai⟩:=zkh hr.succ root hroot hall;have HC:=hid hC;have H:=hid h;have aA:=hid (fun W hW=>zfn A c root vs ns hr hl hks hroot W (h.below hW|>.more hW.size));obtain⟨t,ht⟩:=ex (tcomp (Gr.succ ns) ns.length root)
 rw[ht]at aK ai HC;have HT:=hid ht;obtain⟨m,hm⟩:=ex t.sizes.length
 have HM:=hid hm;rw[hm]at ai;have hml:m<=1073741823:=by omega
 have bN:=fun W=>za3 m (by omega) W
 have bw:=fun W=>zje m (by omega) W
 have hrI:(root:Int)<(ns.length:Int):=by omega
 have aB:=hid aK;have HCZ:=hid ai;clear h hC ht hm aK ai;go_enter func25,ntmps25;go_upto_region 1 with fail;obtain⟨w1,ao⟩:=ex (w.alloc (.cells #[.slice A ns.length c,.int .i64 root] 24))
 (try rw[ao]);have l1:Below w.heap.size w w1:=by rw[<-ao];exact(Below.refl _ _).alloc (Nat.le_refl _) _
 have b1:Blk w1 w.heap.size 24 #[.slice A ns.length c,.int .i64 root]:=by rw[<-ao];exact Blk.new _ _ _
 obtain⟨gb,ap⟩:=ex w.heap.size
 have aD:=hid ap;have L1:=hid l1;(try rw[ap]);rw[ap]at b1;have aJ:=hid b1;obtain⟨g0,g1⟩:=cells2 b1;have bP:=hid (aA.out w1 l1);clear ao ap l1 b1;go_wp2_with fail;refine bP.out.mono ?_;rintro e w2 ⟨rC,Az,cz,rfl,h1,h2,h3,h4⟩;rw[HT.out]at h3 h4 ⊢;rw[HM.out]at h4 ⊢;obtain⟨Az',cz',bb,aY⟩:=h4.form;rw[HM.out]at bb;injection bb with e1 _ e2
 subst e1;subst e2;obtain⟨f,V⟩:=ex w2.heap.size
 have aH:gb<f:=by have:=h2.size;have:=aJ.out.lt;omega
 have bt:Hid (DepF w2 gb rC f A Az c root vs ns t.inn t.sizes):=hid ⟨aJ.out.below h2 aJ.out.lt,aH,h3,by have:=h3.lt;omega,by rw[<-V];exact aY,(H.out.below (L1.out.trans (h2.mono (by have:=L1.out.size;omega)))).more (by have:=aD.out;omega)⟩;have bS:Hid (Below w.heap.size w w2):=hid (L1.out.trans (h2.mono L1.out.size));clear h1 h2 h3 h4 g0 g1 aY;go_upto_region 5 with fail;obtain⟨w4,R⟩:=ex ((w2.alloc (.cells (icells (List.replicate m 0)) 3)).alloc (.cells (Array.replicate m (Value.slice none 0 0)) 36))
 have l4:Below f w2 w4:=by rw[<-R,<-V];exact((Below.refl _ _).alloc (Nat.le_refl _) _).alloc (by simp) _
 have al:w4.heap.size=f+1+1:=by rw[<-R];simp[V]
 have b4:Blk w4 f 3 (icells (List.replicate m 0)):=by rw[<-R,<-V];exact(Blk.new _ _ _).alloc _
 have m4:Blk w4 (f+1) 36 (Array.replicate m (Value.slice none 0 0)):=by
  rw[<-R,<-V];have:=Blk.new (w2.alloc (.cells (icells (List.replicate m 0)) 3)) 36 (Array.replicate m (Value.slice none 0 0));rw[World.size_alloc]at this;exact this
 obtain⟨E,aO⟩:=ex (f+1)
 rw[aO]at m4 al;obtain⟨D,hD⟩:=ex (E+1)
 rw[hD]at al;have g:Hid (gb<f/\f<E/\E<D/\w4.heap.size=D/\w.heap.size=gb):=hid ⟨aH,by omega,by omega,al,aD.out⟩;have a0:=hid (bt.out.below l4);have bR:Hid (Below w.heap.size w w4):=hid (bS.out.trans (l4.mono (by rw[aD.out];omega)));have bO:=hid b4;have bC:Hid (Mems w4 D E (List.replicate m (.slice none 0 0)) (List.replicate m [])):=hid (Mems.start (by simpa using m4) (by omega) (by omega));rw[aO,R];have bp:=fun v (hv:v<ns.length)=>HC.out.rng v hv
 have aT:=hid bp;clear R V l4 al b4 m4 aO hD aH bp bN bw;go_upto_region 6 with fail;go_loopw [31] (fun s31 wr=>∃i:Nat,i<=ns.length/\s31=.int .i64 i/\Hid (KB E w4 wr/\∃mv,Mems wr D E mv (memsL t.cn i m))) (fun s31 _=>ns.length-(intOf s31).toNat)
 case atStart=>exact⟨0,by omega,rfl,hid ⟨KB.refl _ _,_,by rw[zlz];exact bC.out⟩⟩
 case round=>
  obtain⟨i,hi,rfl,I⟩:=hrel;by_cases hlt:i<ns.length
  .have K:(i:Int)<(ns.length:Int):=by omega
   obtain⟨Y,mv,C⟩:=I.out;obtain⟨bA,aZ⟩:=aT.out i hlt;obtain⟨u,ah⟩:∃u:Nat,t.cn i=(u:Int):=⟨(t.cn i).toNat,by omega⟩
   rw[ah,HM.out]at aZ;have au:u<m:=by omega
   have hccI:(u:Int)<(m:Int):=by omega
   have l:u<mv.length:=by rw[C.len,zci];exact au
   have y0:wr.cell? ⟨rC,i,none⟩=some (.int .i64 (u:Int)):=by
    have:=((a0.out.below (Y.below (by have:=g.out;omega) (by have:=g.out;omega))).bc).cell i;rw[this,zb2 (by rw[aB.out];exact hlt),<-zvb,ah]
   have az:u<(memsL t.cn i m).length:=by rw[zci];exact au
   obtain⟨Ac,ag,bM,z0,bQ⟩:=C.at_ az;have aa:=C.own u l az;have o:mv[u]=.slice Ac (memsL t.cn i m)[u].length ag:=by
    have h1:=C.blk.cell u;rw[z0]at h1;simpa[List.getElem?_eq_getElem l]using h1.symm
   rw[zcj]at z0 aa o;clear bQ bM az;have ar:=zeu t.cn i u;obtain⟨L,hL⟩:=ex (members t.cn i u)
   rw[hL]at z0 aa ar o;rw[o]at aa;have F:Hid (memsL t.cn (i+1) m=(memsL t.cn i m).set u (L++[i])):=hid (by rw[zl0 _ _ _ _ ah,hL]);have zf:∀j,wr.frozen? ⟨E,j,none⟩=false:=C.blk.frozen;have bT:=hid aa;have br:Hid (∃l:u<mv.length,KB E w4 wr/\Mems wr D E mv (memsL t.cn i m)/\mv[u]=.slice Ac L.length ag):=hid ⟨l,Y,C,o⟩;have aC:Hid (D<=wr.heap.size/\L.length+1<=1073741823):=hid ⟨C.hd,by omega⟩;clear Y C bA aZ ah l aa o ar hL;go_upto_region 8 with fail;clear y0;go_wp2_with (at_builtin;go_must (refine zaa _ rfl (.tmp 41) (.tmp 43) 36 3 8 rfl intT D (.slice Ac L.length ag) L rfl (bT.out.alloc _) _ _ 1 [i] rfl (RowAt.lit1 _ _ rfl _ ?_) ?_ ?_ ?_))
   any_goals (first|rfl| (have:=aC.out;omega)| (have:=aC.out;simp;omega)| (rw[World.size_alloc];have:=aC.out;omega))
   intro v' w3 ac hg aR;obtain⟨l,Y,C,o⟩:=br.out;have ab:=C.alloc (.cells #[.int .i64 i] 3);rw[<-o]at hg aR;have bd:=ab.grown l ac hg (by rw[World.size_alloc];exact aR);have bk:=ab.grownKB (Y.alloc _) g.out.2.2.2.1 l v' hg;have aI:Blk w3 E 36 mv.toArray:=ab.blk.grown hg (fun e=>by have:=((ab.own u l (by rw[zci];omega)).lt E e.symm).1;have:=g.out;omega);have bE:w3.cell? ⟨E,u,none⟩=some mv[u]:=by rw[aI.cell];simp[List.getElem?_eq_getElem l]
   rw[o]at bE;have pf3:∀j,w3.frozen? ⟨E,j,none⟩=false:=aI.frozen;obtain⟨g3,aq,a2,_⟩:=ac.shape (by simp);obtain⟨n3,bf⟩:=ex ((L++[i]).length)
   rw[bf]at a2;subst a2;have s:Hid (KB E w4 (w3.setCell ⟨E,u,none⟩ (.slice (some ⟨g3,0,none⟩) n3 aq))/\∃mv,Mems (w3.setCell ⟨E,u,none⟩ (.slice (some ⟨g3,0,none⟩) n3 aq)) D E mv (memsL t.cn (i+1) m)):=hid ⟨bk,_,by rw[F.out];exact bd⟩;clear o Y C ab ac hg aR bd bk aI bf z0 zf l;go_wp2;go_roundw
   case rel=>exact⟨i+1,by omega,by go_num,s⟩
   case measure=>simp[intOf];omega
  .have K:¬((i:Int)<(ns.length:Int)):=by omega
   have bi:i=ns.length:=by omega
   obtain⟨Y,mv,C⟩:=I.out;rw[bi]at C;obtain⟨P,bG⟩:∃P,P=wr:=⟨_,rfl⟩
   subst bG;have bm:Hid (Mems P D E mv (memsL t.cn ns.length m)):=hid C;have aj:Hid (DepF P gb rC f A Az c root vs ns t.inn t.sizes):=hid (a0.out.below (Y.below (by have:=g.out;omega) (by have:=g.out;omega)));have F:Hid (Below w.heap.size w P/\D<=P.heap.size):=hid ⟨bR.out.trans (Y.below (by have:=g.out;omega) (by have:=g.out;omega)),C.hd⟩;have bz:Hid (Blk P f 3 (icells (List.replicate m 0))):=hid (Y.blk bO.out (by have:=g.out;omega));clear Y C I bi hi hlt;go_upto_region 11 with fail;clear K;go_loopw [6,49] (fun s6 s49 wr=>∃(k:Nat) (p:List Nat×Bool),k<=m/\s49=.int .i64 k/\s6=.bool p.2/\Hid (p=(List.range k).foldl (dcomp (Gr.succ ns) t.cn ns.length t.sizes) (List.replicate m 0,true)/\KB f P wr/\Blk wr f 3 (icells p.1))) (fun _ s49 _=>m-(intOf s49).toNat)
   case atStart=>exact⟨0,(List.replicate m 0,true),by omega,rfl,rfl,hid ⟨rfl,KB.refl _ _,bz.out⟩⟩
   case round=>
    obtain⟨k,p,Y,rfl,rfl,I⟩:=hrel;obtain⟨wq,bU⟩:∃wq,wq=wr:=⟨_,rfl⟩
    subst bU;by_cases hlt:k<m
    .have K:(k:Int)<(m:Int):=by omega
     have C:=bm.out.kb I.out.2.1 (by have:=g.out;omega) (by have:=g.out;omega);obtain⟨Ak,capk,l,z0,bv⟩:=C.at_ (c:=k) (by rw[zci];exact hlt);clear bv;rw[zcj]at z0 l;have a4:Hid (∀W,KB f P W->RowAt intL W W.heap.size Ak (members t.cn ns.length k)):=hid (fun W hW=>by
      have:=(bm.out.kb hW (by have:=g.out;omega) (by have:=g.out;omega)).row (c:=k) (by rw[zci];exact hlt) l;rwa[zcj]at this)
     clear l;have bD:=zeu t.cn ns.length k;have bq:Hid (∀x∈members t.cn ns.length k,x<ns.length):=hid (zl1 t.cn ns.length k);have bo:Hid (dcomp (Gr.succ ns) t.cn ns.length t.sizes p k=((((members t.cn ns.length k).foldl (fun p i=>(Gr.succ ns i).foldl (dstep t.cn k) p) p).1.set k (((members t.cn ns.length k).foldl (fun p i=>(Gr.succ ns i).foldl (dstep t.cn k) p) p).1.getD k 0+t.sizes.getD k 0)),((members t.cn ns.length k).foldl (fun p i=>(Gr.succ ns i).foldl (dstep t.cn k) p) p).2)):=hid rfl;obtain⟨Lk,a3⟩:=ex (members t.cn ns.length k)
     rw[a3]at z0 a4 bD bq bo;have aE:∀j,t.sizes.getD j 0<=ns.length:=fun j=>by
      by_cases hj:j<t.sizes.length
      .rw[HC.out.cnt j hj];exact Nat.le_trans List.countP_le_length (by simp)
      .simp[List.getD_eq_getElem?_getD,List.getElem?_eq_none (Nat.le_of_not_lt hj)]
     have bF:=hid aE;have ak:p.1.length=m:=by rw[I.out.1,zfw];simp
     have T:Sml (k*ns.length) p:=by
      rw[I.out.1];refine Sml.comps (fun j=>?_) aE k;simp[List.getD_eq_getElem?_getD,List.getElem?_replicate];split<;>simp
     obtain⟨M,ax⟩:=ex (k*ns.length)
     rw[ax]at T;have aF:Hid (M<=1152921504606846976):=hid (by rw[<-ax];exact Nat.le_trans (Nat.mul_le_mul (show k<=1073741824 by omega) (show ns.length<=1073741824 by omega)) (by decide));have aX:=hid ak;have bj:=hid T;clear C a3 aE ak T ax;go_upto_region 14 with fail;clear z0;go_loopw [6,57] (fun s6 s57 wr=>∃(j:Nat) (q:List Nat×Bool),j<=Lk.length/\s57=.int .i64 j/\s6=.bool q.2/\Hid (q=(Lk.take j).foldl (fun p i=>(Gr.succ ns i).foldl (dstep t.cn k) p) p/\KB f P wr/\Blk wr f 3 (icells q.1))) (fun _ s57 _=>Lk.length-(intOf s57).toNat)
     case atStart=>exact⟨0,p,by omega,rfl,rfl,hid ⟨rfl,I.out.2.1,I.out.2.2⟩⟩
     case round=>
      obtain⟨j,q,hj,rfl,rfl,J⟩:=hrel;obtain⟨Q,bH⟩:∃Q,Q=wr:=⟨_,rfl⟩
      subst bH;by_cases hjl:j<Lk.length
      .have a6:(j:Int)<(Lk.length:Int):=by omega
       obtain⟨i,hi⟩:=ex (Lk[j])
       have aU:i<ns.length:=by rw[<-hi];exact bq.out _ (List.getElem_mem hjl)
       obtain⟨adk,rfl,hadk,y0⟩:=zaf (a4.out _ J.out.2.1) hjl;rw[hi]at y0;have z:=aj.out.below (J.out.2.1.below (B:=f) (Nat.le_refl _) (by have:=F.out;have:=g.out;omega));have g0:Q.cell? ⟨gb,0,none⟩=some (.slice A ns.length c):=z.bg.cell 0;obtain⟨ad,ks,is,rfl,hN⟩:=z.at_.node aU;obtain⟨Z,kn,kc⟩:=ks;obtain⟨ia,bK,ic⟩:=is;have aQ:ns[i]∈ns:=List.getElem_mem aU;obtain⟨a1,be⟩:=hks _ aQ;have aM:Gr.succ ns i=ns[i].keys++ns[i].items:=by unfold Gr.succ;rw[List.getElem?_eq_getElem aU]
       have aG:Hid (∀x∈ns[i].keys++ns[i].items,x<ns.length):=hid (hr _ aQ);obtain⟨n,hn⟩:=ex (ns[i])
       rw[hn]at hN a1 be aM aG;obtain rfl:kn=n.keys.length:=hN.kn;obtain rfl:bK=n.items.length:=hN.inn;have x3:=hN.c3;have x4:=hN.c4;have bJ:Hid ((Lk.take (j+1)).foldl (fun p i=>(Gr.succ ns i).foldl (dstep t.cn k) p) p=(n.keys++n.items).foldl (dstep t.cn k) q):=hid (by
        rw[zai _ _ hjl,List.foldl_append,<-J.out.1,hi,List.foldl_cons,List.foldl_nil,aM])
       have bh:Hid (RowAt intL Q f Z n.keys/\RowAt intL Q f ia n.items):=hid ⟨hN.keys,hN.items⟩;have hinI:(i:Int)<(ns.length:Int):=by omega
       clear z hN aQ aM hn hi;go_upto_region 16 with fail;go_region_held3 (fun w'=>w'.cell? ⟨gb,0,none⟩=some (.slice (some ad) ns.length c)/\w'.cell? {block:=(ad.add (i*5)).block,off:=(ad.add (i*5)).off+3}=some (.slice Z n.keys.length kc)/\w'.cell? {block:=(ad.add (i*5)).block,off:=(ad.add (i*5)).off+4}=some (.slice ia n.items.length ic)) (go_keep) (fail);go_upto_region 17 with fail;clear x3 x4 g0 y0;obtain⟨N,ae⟩:=ex ((Q.alloc (.cells #[.slice Z n.keys.length kc,.slice ia n.items.length ic] 36)).drew)
       obtain⟨lb,aL⟩:=ex Q.heap.size
       have b5:Blk N lb 36 #[.slice Z n.keys.length kc,.slice ia n.items.length ic]:=by rw[<-ae,<-aL];exact(Blk.new _ _ _).drew
       have k5:KB f Q N:=by rw[<-ae];exact((KB.refl _ _).alloc _).drewN 1
       have aV:Hid (f<lb/\f<=Q.heap.size):=hid ⟨by have:=J.out.2.2.lt;omega,Nat.le_of_lt J.out.2.2.lt⟩;have am:Hid (KB f P N/\Blk N f 3 (icells q.1)/\Blk N lb 36 #[.slice Z n.keys.length kc,.slice ia n.items.length ic]):=hid ⟨J.out.2.1.trans k5,by rw[<-ae];exact(J.out.2.2.alloc _).drew,b5⟩;have av:Hid (RowAt intL N f Z n.keys/\RowAt intL N f ia n.items):=hid ⟨bh.out.1.below (k5.below (Nat.le_refl _) aV.out.2),bh.out.2.below (k5.below (Nat.le_refl _) aV.out.2)⟩;rw[ae,aL];clear ae b5 k5 aL;go_loopw [6,75] (fun s6 s75 wr=>∃(r:Nat) (q2:List Nat×Bool),r<=2/\s75=.int .i64 r/\s6=.bool q2.2/\Hid (q2=(if r=0 then[]else if r=1 then n.keys else n.keys++n.items).foldl (dstep t.cn k) q/\KB f N wr/\Blk wr f 3 (icells q2.1)/\Blk wr lb 36 #[.slice Z n.keys.length kc,.slice ia n.items.length ic])) (fun _ s75 _=>2-(intOf s75).toNat)
       case atStart=>exact⟨0,q,by omega,rfl,rfl,hid ⟨rfl,KB.refl _ _,am.out.2⟩⟩
       case round=>
        obtain⟨r,q2,hr2,rfl,rfl,HR⟩:=hrel;obtain⟨wx,bB⟩:∃wx,wx=wr:=⟨_,rfl⟩
        subst bB;by_cases hrl:r<2
        .have a8:(r:Int)<2:=by omega
         obtain⟨Ax,G,cx,e1,HX⟩:∃Ax G cx,wx.cell? ⟨lb,r,none⟩=some (.slice Ax (G:List Nat).length cx)/\Hid (RowAt intL N f Ax G/\(if r+1=0 then[]else if r+1=1 then n.keys else n.keys++n.items)=(if r=0 then[]else if r=1 then n.keys else n.keys++n.items)++G/\(∀x∈G,x<ns.length)/\G.length<=1073741823):=by
          obtain rfl|rfl:r=0\/r=1:=by omega
          .exact⟨Z,n.keys,kc,HR.out.2.2.2.cell 0,hid ⟨av.out.1,by simp,fun x hx=>aG.out x (List.mem_append_left _ hx),a1⟩⟩
          .exact⟨ia,n.items,ic,HR.out.2.2.2.cell 1,hid ⟨av.out.2,by simp,fun x hx=>aG.out x (List.mem_append_right _ hx),be⟩⟩
         have hxl:=HX.out.2.2.2;go_upto_region 20 with fail;clear e1;go_loopw [6,81] (fun s6 s81 wr=>∃(y:Nat) (q3:List Nat×Bool),y<=G.length/\s81=.int .i64 y/\s6=.bool q3.2/\Hid (q3=(G.take y).foldl (dstep t.cn k) q2/\KB f N wr/\Blk wr f 3 (icells q3.1)/\Blk wr lb 36 #[.slice Z n.keys.length kc,.slice ia n.items.length ic])) (fun _ s81 _=>G.length-(intOf s81).toNat)
         case atStart=>exact⟨0,q2,by omega,rfl,rfl,hid ⟨rfl,HR.out.2⟩⟩
         case round=>
          obtain⟨y,q3,hy,rfl,rfl,S⟩:=hrel;by_cases hyl:y<G.length
          .have a5:(y:Int)<(G.length:Int):=by omega
           obtain⟨x,hx⟩:=ex (G[y])
           have a9:x<ns.length:=by rw[<-hx];exact HX.out.2.2.1 _ (List.getElem_mem hyl)
           have O:Below f N wr:=S.out.2.1.below (Nat.le_refl _) (Nat.le_of_lt am.out.2.1.lt);obtain⟨adx,rfl,hadx,y0⟩:=zaf (HX.out.1.below O) hyl;rw[hx]at y0;obtain⟨an,U⟩:=aT.out x a9;obtain⟨d,X⟩:∃d:Nat,t.cn x=(d:Int):=⟨(t.cn x).toNat,by omega⟩
           rw[X,HM.out]at U;have bx:(d:Int)<(m:Int):=by omega
           have aN:=(aj.out.below (am.out.1.below (B:=f) (Nat.le_refl _) (by have:=F.out;have:=g.out;omega))).below O;have r0:wr.cell? ⟨rC,x,none⟩=some (.int .i64 (d:Int)):=by
            rw[aN.bc.cell,zb2 (by rw[aB.out];exact a9),<-zvb,X]
           have hxnI:(x:Int)<(ns.length:Int):=by omega
           have bl:Hid ((G.take (y+1)).foldl (dstep t.cn k) q2=dstep t.cn k q3 x):=hid (by rw[zai _ _ hyl,List.foldl_append,<-S.out.1,hx];rfl);have hyb:y<=1073741823:=by omega
           by_cases hdk:d=k
           .have a7:((k:Int)==(k:Int))=true:=by simp
            rw[hdk]at r0;have s:Hid ((q3.1,false)=(G.take (y+1)).foldl (dstep t.cn k) q2/\KB f N wr/\Blk wr f 3 (icells q3.1)/\Blk wr lb 36 #[.slice Z n.keys.length kc,.slice ia n.items.length ic]):=hid ⟨by rw[bl.out];unfold dstep;rw[if_pos (by rw[X,hdk])],S.out.2⟩;clear aN O X an U hx hdk;go_wp2;go_roundw
            case rel=>exact⟨y+1,(q3.1,false),by omega,by go_num,rfl,s⟩
            case measure=>simp[intOf];omega
           .have a7:((d:Int)==(k:Int))=false:=by simp;omega
            have aW:¬(d:Int)=(k:Int):=by omega
            obtain⟨a,ha⟩:=ex (q3.1.getD k 0)
            obtain⟨b,hb⟩:=ex (q3.1.getD d 0)
            have bL:q3.1.length=m:=by rw[S.out.1,zev,HR.out.1,zev,J.out.1,zdw];exact aX.out
            have af:Sml M q3:=by rw[S.out.1];refine Sml.fold _ ?_;rw[HR.out.1];refine Sml.fold _ ?_;rw[J.out.1];exact Sml.foldM _ _ bj.out
            have ba:a<=1152921504606846976:=by have:=af k;have:=aF.out;omega
            have bu:b<=1152921504606846976:=by have:=af d;have:=aF.out;omega
            have z1:wr.cell? ⟨f,k,none⟩=some (.int .i64 (a:Int)):=by rw[S.out.2.2.1.cell,zab (by omega),ha]
            have z2:wr.cell? ⟨f,d,none⟩=some (.int .i64 (b:Int)):=by rw[S.out.2.2.1.cell,zab (by omega),hb]
            have zf:∀j,wr.frozen? ⟨f,j,none⟩=false:=S.out.2.2.1.frozen;have s:∀v:Nat,v=max a b->Hid ((q3.1.set k v,q3.2)=(G.take (y+1)).foldl (dstep t.cn k) q2/\KB f N (wr.setCell ⟨f,k,none⟩ (.int .i64 (v:Int))).drew/\Blk (wr.setCell ⟨f,k,none⟩ (.int .i64 (v:Int))).drew f 3 (icells (q3.1.set k v))/\Blk (wr.setCell ⟨f,k,none⟩ (.int .i64 (v:Int))).drew lb 36 #[.slice Z n.keys.length kc,.slice ia n.items.length ic]):=fun v hv=>hid ⟨by rw[bl.out];unfold dstep;rw[if_neg (by rw[X];exact aW),X,ha,show((d:Int)).toNat=d from by omega,hb,hv],(S.out.2.1.set _ _).drewN 1,by rw[<-zam];exact(S.out.2.2.1.set_ k _).drew,(S.out.2.2.2.far (by have:=aV.out;simp;omega) _).drew⟩
            have aS:=hid s;clear aN O X an U hx hdk s bL af ha hb;go_upto_region 24 with fail;by_cases hmx:a<b
            all_goals go_region
            all_goals go_wp2_with fail
            all_goals
             go_roundw
             case rel=>first| (rw[show max (a:Int) (b:Int)=((max a b:Nat):Int)from by omega];exact⟨y+1,(q3.1.set k (max a b),q3.2),by omega,by go_num,rfl,aS.out (max a b) rfl⟩)|exact⟨y+1,(q3.1.set k a,q3.2),by omega,by go_num,rfl,aS.out a (by omega)⟩|exact⟨y+1,(q3.1.set k b,q3.2),by omega,by go_num,rfl,aS.out b (by omega)⟩
             case measure=>simp[intOf];omega
          .have a5:¬(y:Int)<(G.length:Int):=by omega
           have s:Hid (q3=(if r+1=0 then[]else if r+1=1 then n.keys else n.keys++n.items).foldl (dstep t.cn k) q/\KB f N wr/\Blk wr f 3 (icells q3.1)/\Blk wr lb 36 #[.slice Z n.keys.length kc,.slice ia n.items.length ic]):=hid ⟨by
            rw[HX.out.2.1,List.foldl_append,<-HR.out.1];have:=S.out.1;rwa[show y=G.length from by omega,List.take_length]at this,S.out.2⟩
           go_wp2;go_roundw
           case rel=>exact⟨r+1,q3,by omega,by go_num,rfl,s⟩
           case measure=>simp[intOf];omega
        .have a8:¬(r:Int)<2:=by omega
         have s:Hid (q2=(Lk.take (j+1)).foldl (fun p i=>(Gr.succ ns i).foldl (dstep t.cn k) p) p/\KB f P wx/\Blk wx f 3 (icells q2.1)):=hid ⟨by
          have:=HR.out.1;rw[show r=2 from by omega]at this;rw[bJ.out];exact this,am.out.1.trans HR.out.2.1,HR.out.2.2.1⟩
         go_wp2;go_roundw
         case rel=>exact⟨j+1,q2,by omega,by go_num,rfl,s⟩
         case measure=>simp[intOf];omega
      .have a6:¬(j:Int)<(Lk.length:Int):=by omega
       obtain⟨a,ha⟩:=ex (q.1.getD k 0)
       obtain⟨b,hb⟩:=ex (t.sizes.getD k 0)
       have hq:q=Lk.foldl (fun p i=>(Gr.succ ns i).foldl (dstep t.cn k) p) p:=by
        have:=J.out.1;rwa[show j=Lk.length from by omega,List.take_length]at this
       have bI:q.1.length=m:=by rw[hq,zdw];exact aX.out
       have ba:a<=1152921504606846976:=by
        have h1:Sml M q:=by rw[hq];exact Sml.foldM _ _ bj.out
        have:=h1 k;have:=aF.out;omega
       have bu:b<=1073741823:=by have:=bF.out k;omega
       have z:=aj.out.below (J.out.2.1.below (B:=f) (Nat.le_refl _) (by have:=F.out;have:=g.out;omega));have aP:k<t.sizes.length:=by rw[HM.out];exact hlt
       have bn:t.sizes[k]=b:=by rw[<-hb];simp[List.getD_eq_getElem?_getD,List.getElem?_eq_getElem aP]
       obtain⟨adz,rfl,hadz,z2⟩:=zaf z.rz aP;rw[bn]at z2;have z1:Q.cell? ⟨f,k,none⟩=some (.int .i64 (a:Int)):=by rw[J.out.2.2.cell,zab (by omega),ha]
       have zf:∀j,Q.frozen? ⟨f,j,none⟩=false:=J.out.2.2.frozen;have s:Hid ((q.1.set k (a+b),q.2)=(List.range (k+1)).foldl (dcomp (Gr.succ ns) t.cn ns.length t.sizes) (List.replicate m 0,true)/\KB f P (Q.setCell ⟨f,k,none⟩ (.int .i64 ((a:Int)+(b:Int)))).drew/\Blk (Q.setCell ⟨f,k,none⟩ (.int .i64 ((a:Int)+(b:Int)))).drew f 3 (icells (q.1.set k (a+b)))):=hid ⟨by
        rw[List.range_succ,List.foldl_append,<-I.out.1,List.foldl_cons,List.foldl_nil,bo.out,<-hq,ha,hb],(J.out.2.1.set _ _).drewN 1,by
        rw[<-zam,show(((a+b:Nat)):Int)=(a:Int)+(b:Int)from by omega];exact(J.out.2.2.set_ k _).drew⟩
       clear ha hb hq bI z bn aP;go_upto_region 28 with fail;go_region
       all_goals go_wp2_with fail
       all_goals
        go_roundw
        case rel=>exact⟨k+1,(q.1.set k (a+b),q.2),by omega,by go_num,rfl,s⟩
        case measure=>simp[intOf];omega
    .have K:¬(k:Int)<(m:Int):=by omega
     have ay:k=m:=by omega
     have z:=aj.out.below (I.out.2.1.below (B:=f) (Nat.le_refl _) (by have:=F.out;have:=g.out;omega));obtain⟨an,U⟩:=aT.out root hroot;obtain⟨d,X⟩:∃d:Nat,t.cn root=(d:Int):=⟨(t.cn root).toNat,by omega⟩
     rw[X,HM.out]at U;have bx:(d:Int)<(m:Int):=by omega
     have r0:wq.cell? ⟨rC,root,none⟩=some (.int .i64 (d:Int)):=by
      rw[z.bc.cell,zb2 (by rw[aB.out];exact hroot),<-zvb,X]
     have g1:wq.cell? ⟨gb,1,none⟩=some (.int .i64 root):=z.bg.cell 1;obtain⟨a,ha⟩:=ex (p.1.getD d 0)
     have ak:p.1.length=m:=by rw[I.out.1,zfw];simp
     have z0:wq.cell? ⟨f,d,none⟩=some (.int .i64 (a:Int)):=by rw[I.out.2.2.cell,zab (by omega),ha]
     have T:Sml (m*ns.length) p:=by
      rw[I.out.1,<-ay];refine Sml.comps (fun j=>?_) (fun j=>?_) k
      .simp[List.getD_eq_getElem?_getD,List.getElem?_replicate];split<;>simp
      .by_cases hj:j<t.sizes.length
       .rw[HC.out.cnt j hj];exact Nat.le_trans List.countP_le_length (by simp)
       .simp[List.getD_eq_getElem?_getD,List.getElem?_eq_none (Nat.le_of_not_lt hj)]
     have ba:a<=1152921504606846976:=by
      have:=T d;have h2:m*ns.length<=1152921504606846976:=Nat.le_trans (Nat.mul_le_mul (show m<=1073741824 by omega) (show ns.length<=1073741824 by omega)) (by decide);omega
     have aw:Hid ((depth ns root).1=(a:Int)-1/\(depth ns root).2=p.2):=hid (by
      have hp:p=dall (Gr.succ ns) t.cn ns.length t.sizes:=by rw[I.out.1,ay];unfold dall;rw[HM.out]
      unfold depth;simp only[HT.out];rw[<-hp,X,<-ha];exact⟨rfl,rfl⟩)
     have bs:Hid (Below w.heap.size w wq):=hid (F.out.1.trans (I.out.2.1.below (by have:=g.out;omega) (by have:=g.out;have:=F.out;omega)));clear ay z an U X ha ak T;go_wp2;go_ret2;rw[aw.out.1,aw.out.2];exact⟨rfl,bs.out⟩
namespace Gr
structure Ni where
 kind:Int
 text:Str
 ord:Bool
 keys:List Int
 items:List Int
def Ni.nd (x:Ni):Nd:=⟨x.kind,x.text,x.ord,x.keys.map Int.toNat,x.items.map Int.toNat⟩
def inR (n:Nat) (x:Int):Bool:=decide (0<=x) && decide (x<(n:Int))
def rng (n:Nat) (x:Ni):Bool:=(x.keys++x.items).all (inR n)
def indB (is:List Ni) (root:Int):Bool:=inR is.length root && is.all (rng is.length)
end Gr
open Go.RowKit
theorem zse (l:List Int) (h0:∀x∈l,0<=x):intL.all (l.map Int.toNat)=intI.all l:=by
 induction l with
 |nil=>rfl
 |cons x l ih=>
  have c:intI.all (x::l)=intI.enc x++intI.all l:=rfl;have a:intL.all (x.toNat::l.map Int.toNat)=intL.enc x.toNat++intL.all (l.map Int.toNat):=rfl;have hx:=h0 x (.head _);rw[List.map_cons,c,a,ih (fun y b=>h0 y (.tail _ b))];show[Value.int .i64 ((x.toNat:Nat):Int)]++_=[Value.int .i64 x]++_;rw[show((x.toNat:Nat):Int)=x from by omega]
theorem zkk {w:World} {B:Nat} {A:Option Addr} {l:List Int} (h:RowAt intI w B A l) (h0:∀x∈l,0<=x):RowAt intL w B A (l.map Int.toNat):=by
 unfold RowAt at h ⊢;rw[zse l h0,List.length_map];exact h
theorem zew {w:World} {B:Nat} {A:Option Addr} {l:List Int} {k:Nat} (h:RowAt intI w B A l) (hk:k<l.length):∃ad,A=some ad/\ad.block<B/\w.cell? (ad.add k)=some (.int .i64 l[k]):=by
 obtain⟨ad,a,c,b,_⟩:=h.get hk;refine⟨ad,a,c,?_⟩;have:=b (.int .i64 l[k]) rfl;rwa[show k*intI.sz=k from Nat.mul_one k]at this
structure IAt (w:World) (B:Nat) (A:Option Addr) (vs:List NV) (ns:List Gr.Ni):Prop where
 row:RowAt nodeL w B A vs
 len:vs.length=ns.length
 kind:∀j (h:j<vs.length) (h2:j<ns.length),vs[j].kind=ns[j].kind/\vs[j].text=ns[j].text/\vs[j].ord=ns[j].ord
 nums:∀j (h:j<vs.length) (h2:j<ns.length),RowAt intI w B vs[j].k.a ns[j].keys/\vs[j].k.n=ns[j].keys.length/\RowAt intI w B vs[j].i.a ns[j].items/\vs[j].i.n=ns[j].items.length
theorem IAt.below {w w':World} {B:Nat} {A:Option Addr} {vs:List NV} {ns:List Gr.Ni} (h:IAt w B A vs ns) (hb:Below B w w'):IAt w' B A vs ns:=
 ⟨h.row.below hb,h.len,h.kind,fun j e f=>let⟨a,b,c,d⟩:=h.nums j e f;⟨a.below hb,b,c.below hb,d⟩⟩
theorem IAt.more {w:World} {B B':Nat} {A:Option Addr} {vs:List NV} {ns:List Gr.Ni} (h:IAt w B A vs ns) (hB:B<=B'):IAt w B' A vs ns:=
 ⟨h.row.more hB,h.len,h.kind,fun j e f=>let⟨a,b,c,d⟩:=h.nums j e f;⟨a.more hB,b,c.more hB,d⟩⟩
theorem IAt.toG {w:World} {B:Nat} {A:Option Addr} {vs:List NV} {ns:List Gr.Ni} (h:IAt w B A vs ns) (h0:∀x∈ns,∀y∈x.keys++x.items,0<=y):GAt w B A vs (ns.map Gr.Ni.nd):=by
 refine⟨h.row,by simp[h.len],fun j g e=>?_,fun j g e=>?_⟩
 .rw[List.length_map]at e;rw[List.getElem_map];exact h.kind j g e
 .rw[List.length_map]at e;rw[List.getElem_map];obtain⟨a,b,c,d⟩:=h.nums j g e;have i:=h0 _ (List.getElem_mem e);exact⟨zkk a (fun y f=>i y (List.mem_append_left _ f)),by rw[b];simp[Gr.Ni.nd],zkk c (fun y f=>i y (List.mem_append_right _ f)),by rw[d];simp[Gr.Ni.nd]⟩
theorem za4 {is:List Gr.Ni} (h:is.all (rng is.length)=true):(∀x∈is,∀y∈x.keys++x.items,0<=y)/\Refs (is.map Gr.Ni.nd):=by
 have c:∀x∈is,∀y∈x.keys++x.items,0<=y/\y<(is.length:Int):=by
  intro x a y b;have:=List.all_eq_true.1 (List.all_eq_true.1 h x a) y b;simpa[inR]using this
 refine⟨fun x a y b=>(c x a y b).1,fun x a r d=>?_⟩;obtain⟨y,b,rfl⟩:=List.mem_map.1 a;rw[List.length_map];rw[Gr.Ni.nd,<-List.map_append]at d;obtain⟨z,e,rfl⟩:=List.mem_map.1 d;have:=c y b z e;omega
theorem IAt.node {w:World} {B:Nat} {A:Option Addr} {vs:List NV} {ns:List Gr.Ni} (h:IAt w B A vs ns) {j:Nat} (hj:j<ns.length):∃(ad:Addr) (k i:SV),A=some ad/\ad.block<B/\w.cell? (ad.add (j*5))=some (.int .i64 ns[j].kind)/\w.cell? {block:=(ad.add (j*5)).block,off:=(ad.add (j*5)).off+1}=some (.string ⟨ns[j].text.toArray⟩)/\w.cell? {block:=(ad.add (j*5)).block,off:=(ad.add (j*5)).off+2}=some (.bool ns[j].ord)/\
 w.cell? {block:=(ad.add (j*5)).block,off:=(ad.add (j*5)).off+3}=some (.slice k.a k.n k.c)/\w.cell? {block:=(ad.add (j*5)).block,off:=(ad.add (j*5)).off+4}=some (.slice i.a i.n i.c)/\RowAt intI w B k.a ns[j].keys/\k.n=ns[j].keys.length/\RowAt intI w B i.a ns[j].items/\i.n=ns[j].items.length:=by
 have b:j<vs.length:=by rw[h.len];exact hj
 obtain⟨ad,q,o,f,d,e,s,l⟩:=zn4 h.row b;obtain⟨g,r,p⟩:=h.kind j b hj;obtain⟨v,t,m,u⟩:=h.nums j b hj;rw[g]at f;rw[r]at d;rw[p]at e;exact⟨ad,vs[j].k,vs[j].i,q,o,f,d,e,s,l,v,t,m,u⟩
theorem zb3 {α:Type} (f:α->Bool) (l:List α) (k:Nat) (h:k<l.length):(l.take (k+1)).all f=((l.take k).all f && f l[k]):=by
 rw[List.take_succ_eq_append_getElem h,List.all_append];simp
theorem zex (A:Option Addr) (c:Nat) (root:Int) (vs:List NV) (ns:List Gr.Ni) (hl:ns.length<=1073741823) (hks:∀n∈ns,n.keys.length<=1073741823/\n.items.length<=1073741823) (w:World) (h:IAt w w.heap.size A vs ns):
 Calls prog 26 #[.agg #[.slice A ns.length c,.int .i64 root]] w fun e w'=>e=.returned (.bool (indB ns root))/\Below w.heap.size w w':=by
 have H:=hid h;obtain⟨F,d⟩:=ex (inR ns.length root)
 have u:=hid d;unfold inR at d;clear h;go_enter func26,ntmps26;go_upto_region 1 with fail;go_cut [3] (fun s3 wx=>s3=.bool F/\∃w1,w1=wx/\w1=w.alloc (.cells #[.slice A ns.length c,.int .i64 root] 24))
 case first=>
  by_cases h1:0<=root
  .by_cases h2:root<(ns.length:Int)
   .obtain rfl:F=true:=by rw[<-d];simp[h1,h2]
    clear d u;go_wp2;go_meet;exact⟨rfl,_,rfl,rfl⟩
   .obtain rfl:F=false:=by rw[<-d];simp[h2]
    clear d u;go_wp2;go_meet;exact⟨rfl,_,rfl,rfl⟩
  .obtain rfl:F=false:=by rw[<-d];simp[h1]
   clear d u;go_wp2;go_meet;exact⟨rfl,_,rfl,rfl⟩
 case rest=>
  obtain⟨rfl,w1,rfl,G⟩:=hcut;have l1:Below w.heap.size w w1:=by rw[G];exact(Below.refl _ _).alloc (Nat.le_refl _) _
  have b1:Blk w1 w.heap.size 24 #[.slice A ns.length c,.int .i64 root]:=by rw[G];exact Blk.new _ _ _
  have S:w1.cell? ⟨w.heap.size,0,none⟩=some (.slice A ns.length c):=b1.cell 0;obtain⟨E,s⟩:=ex w.heap.size
  have HGB:=hid s;have L1:=hid l1;have i:=hid b1;have H1:=hid (H.out.below l1);rw[s]at S i H1;(try rw[s]);have v:Hid (E<w1.heap.size):=hid i.out.lt;clear G l1 b1 s d;go_upto_region 3 with fail;clear S;go_loopw [3,24] (fun s3 s24 wr=>∃(j:Nat) (b:Bool),j<=ns.length/\s24=.int .i64 j/\s3=.bool b/\Hid (b=(F && (ns.take j).all (rng ns.length))/\Below w1.heap.size w1 wr)) (fun _ s24 _=>ns.length-(intOf s24).toNat)
  case atStart=>exact⟨0,F,by omega,rfl,rfl,hid ⟨by simp,Below.refl _ _⟩⟩
  case round=>
   obtain⟨j,b,hj,rfl,rfl,t⟩:=hrel;obtain⟨f,Z⟩:∃f,f=wr:=⟨_,rfl⟩
   subst Z;by_cases hlt:j<ns.length
   .have R:(j:Int)<(ns.length:Int):=by omega
    obtain⟨ad,ks,is,rfl,N,c0,c1,c2,c3,c4,r1,r2,X,r4⟩:=(H1.out.below (t.out.2.mono (by have:=v.out;omega))).node hlt;obtain⟨D,kn,K⟩:=ks;obtain⟨C,aa,J⟩:=is;have U:ns[j]∈ns:=List.getElem_mem hlt;obtain⟨O,L⟩:=hks _ U;have M:Hid ((ns.take (j+1)).all (rng ns.length)=((ns.take j).all (rng ns.length) && (ns[j].keys++ns[j].items).all (inR ns.length))):=hid (by rw[zb3 _ _ _ hlt];rfl);obtain⟨n,hn⟩:=ex (ns[j])
    rw[hn]at c0 c1 c2 r1 r2 X r4 O L M;obtain rfl:kn=n.keys.length:=r2;obtain rfl:aa=n.items.length:=r4;have S:f.cell? ⟨E,0,none⟩=some (.slice (some ad) ns.length c):=(i.out.below t.out.2 v.out).cell 0;have z:=hid (And.intro r1 X);have k:Hid (E<f.heap.size/\w1.heap.size<=f.heap.size):=hid ⟨by have:=t.out.2.size;have:=v.out;omega,t.out.2.size⟩;clear r1 X U hn N;go_upto_region 5 with fail;obtain⟨I,m⟩:=ex (f.alloc (.cells #[.int .i64 n.kind,.string ⟨n.text.toArray⟩,.bool n.ord,.slice D n.keys.length K,.slice C n.items.length J] 38))
    have b5:Blk I f.heap.size 38 #[.int .i64 n.kind,.string ⟨n.text.toArray⟩,.bool n.ord,.slice D n.keys.length K,.slice C n.items.length J]:=by rw[<-m];exact Blk.new _ _ _
    have l5:Below f.heap.size f I:=by rw[<-m];exact(Below.refl _ _).alloc (Nat.le_refl _) _
    have s3:I.cell? ⟨f.heap.size,3,none⟩=some (.slice D n.keys.length K):=b5.cell 3;have s4:I.cell? ⟨f.heap.size,4,none⟩=some (.slice C n.items.length J):=b5.cell 4;(try rw[m]);have L5:=hid l5;clear m b5 l5 c0 c1 c2 c3 c4 S;go_upto_region 6 with fail;obtain⟨q,p⟩:=ex (I.alloc (.cells #[.slice D n.keys.length K,.slice C n.items.length J] 36))
    have b6:Blk q I.heap.size 36 #[.slice D n.keys.length K,.slice C n.items.length J]:=by rw[<-p];exact Blk.new _ _ _
    have P:Below f.heap.size f q:=by rw[<-p];exact L5.out.alloc L5.out.size _
    (try rw[p]);have W:=hid b6;have S:q.cell? ⟨E,0,none⟩=some (.slice (some ad) ns.length c):=((i.out.below t.out.2 v.out).below P k.out.1).cell 0;have Q:Hid (RowAt intI q E D n.keys/\RowAt intI q E C n.items):=hid ⟨z.out.1.below (P.mono (by have:=k.out;omega)),z.out.2.below (P.mono (by have:=k.out;omega))⟩;have L6:Hid (Below w1.heap.size w1 q):=hid (t.out.2.trans (P.mono k.out.2));clear p b6 P s3 s4;go_loop [3,34] (fun s3 s34=>∃(r:Nat) (b2:Bool),r<=2/\s34=.int .i64 r/\s3=.bool b2/\Hid (b2=(b && (if r=0 then[]else if r=1 then n.keys else n.keys++n.items).all (inR ns.length)))) (fun _ s34=>2-(intOf s34).toNat)
    case atStart=>exact⟨0,b,by omega,rfl,rfl,hid (by simp)⟩
    case round=>
     obtain⟨r,b2,hr2,rfl,rfl,HR⟩:=hrel;by_cases hrl:r<2
     .have V:(r:Int)<2:=by omega
      obtain⟨Y,a,cx,e1,HX⟩:∃Y a cx,q.cell? ⟨I.heap.size,r,none⟩=some (.slice Y (a:List Int).length cx)/\Hid (RowAt intI q E Y a/\(if r+1=0 then[]else if r+1=1 then n.keys else n.keys++n.items)=(if r=0 then[]else if r=1 then n.keys else n.keys++n.items)++a/\a.length<=1073741823):=by
       obtain rfl|rfl:r=0\/r=1:=by omega
       .exact⟨D,n.keys,K,W.out.cell 0,hid ⟨Q.out.1,by simp,O⟩⟩
       .exact⟨C,n.items,J,W.out.cell 1,hid ⟨Q.out.2,by simp,L⟩⟩
      have hxl:=HX.out.2.2;go_upto_region 9 with fail;clear e1;go_loop [3,40] (fun s3 s40=>∃(y:Nat) (b3:Bool),y<=a.length/\s40=.int .i64 y/\s3=.bool b3/\Hid (b3=(b2 && (a.take y).all (inR ns.length)))) (fun _ s40=>a.length-(intOf s40).toNat)
      case atStart=>exact⟨0,b2,by omega,rfl,rfl,hid (by simp)⟩
      case round=>
       obtain⟨y,b3,hy,rfl,rfl,o⟩:=hrel;by_cases hyl:y<a.length
       .have T:(y:Int)<(a.length:Int):=by omega
        obtain⟨x,hx⟩:=ex (a[y])
        obtain⟨adx,rfl,hadx,y0⟩:=zew HX.out.1 hyl;rw[hx]at y0;have l:Hid ((a.take (y+1)).all (inR ns.length)=((a.take y).all (inR ns.length) && (decide (0<=x) && decide (x<(ns.length:Int))))):=hid (by rw[zb3 _ _ _ hyl,hx];rfl);clear hx;cases b3 with
        |false=>
         have g:Hid (false=(b2 && (a.take (y+1)).all (inR ns.length))):=hid (by rw[l.out,<-Bool.and_assoc,<-o.out];rfl);clear o;go_wp2;go_round
         case rel=>exact⟨y+1,false,by omega,by go_num,rfl,g⟩
         case measure=>simp[intOf];omega
        |true=>
         by_cases h1:0<=x
         .by_cases h2:x<(ns.length:Int)
          .have g:Hid (true=(b2 && (a.take (y+1)).all (inR ns.length))):=hid (by rw[l.out,<-Bool.and_assoc,<-o.out];simp[h1,h2]);clear o;go_wp2;go_round
           case rel=>exact⟨y+1,true,by omega,by go_num,rfl,g⟩
           case measure=>simp[intOf];omega
          .have g:Hid (false=(b2 && (a.take (y+1)).all (inR ns.length))):=hid (by rw[l.out,<-Bool.and_assoc,<-o.out];simp[h2]);clear o;go_wp2;go_round
           case rel=>exact⟨y+1,false,by omega,by go_num,rfl,g⟩
           case measure=>simp[intOf];omega
         .have g:Hid (false=(b2 && (a.take (y+1)).all (inR ns.length))):=hid (by rw[l.out,<-Bool.and_assoc,<-o.out];simp[h1]);clear o;go_wp2;go_round
          case rel=>exact⟨y+1,false,by omega,by go_num,rfl,g⟩
          case measure=>simp[intOf];omega
       .have T:¬(y:Int)<(a.length:Int):=by omega
        have g:Hid (b3=(b && (if r+1=0 then[]else if r+1=1 then n.keys else n.keys++n.items).all (inR ns.length))):=hid (by
         rw[HX.out.2.1,List.all_append,<-Bool.and_assoc,<-HR.out];have:=o.out;rwa[show y=a.length from by omega,List.take_length]at this)
        go_wp2;go_round
        case rel=>exact⟨r+1,b3,by omega,by go_num,rfl,g⟩
        case measure=>simp[intOf];omega
     .have V:¬(r:Int)<2:=by omega
      have g:Hid (b2=(F && (ns.take (j+1)).all (rng ns.length))/\Below w1.heap.size w1 q):=hid ⟨by
       have:=HR.out;rw[show r=2 from by omega]at this;rw[M.out,<-Bool.and_assoc,<-t.out.1];exact this,L6.out⟩
      go_wp2;go_roundw
      case rel=>exact⟨j+1,b2,by omega,by go_num,rfl,g⟩
      case measure=>simp[intOf];omega
   .have R:¬(j:Int)<(ns.length:Int):=by omega
    have B:Hid (indB ns root=b/\Below w.heap.size w f):=hid ⟨by
     have:=t.out.1;rw[show j=ns.length from by omega,List.take_length]at this;unfold indB;rw[u.out,this],L1.out.trans (t.out.2.mono L1.out.size)⟩
    go_wp2;go_ret;rw[B.out.1];exact⟨rfl,B.out.2⟩
abbrev SK:=Int×Gr.Str
def skv (k:SK):Value:=.agg #[.int .i64 k.1,.string ⟨k.2.toArray⟩]
theorem zhp:(prog.fieldsOf 77).toList.map (fun f=>(f.name,f.type,f.offset))=[("Index",3,0),("Key",9,1)]:=by kernel_rfl
theorem zoa:prog.underlying 77=some (.struct (prog.fieldsOf 77)):=by kernel_rfl
theorem zsf:prog.stoodInHeld 77=false:=by kernel_rfl
theorem zhq:prog.plainKey 3=true:=by kernel_rfl
theorem zhr:prog.plainKey 9=true:=by kernel_rfl
theorem zxf (a b:SK) (w:World):(Op.equal 77 (skv a) (skv b)).run prog w=.ok (a==b) w:=by
 unfold Op.equal Op.maxDepth skv;rw[run_equalIn_struct w 9999 77 _ _ zoa zsf];have c:=zhp;obtain⟨i,d⟩:=ex ((prog.fieldsOf 77).toList)
 rw[d]at c ⊢;obtain⟨f,g,rfl⟩:∃f g,i=[f,g]:=by
  rcases i with _|⟨f,_|⟨g,_|⟨h,r⟩⟩⟩
  .simp at c
  .simp at c
  .exact⟨f,g,rfl⟩
  .simp at c
 simp only[List.map_cons,List.map_nil,List.cons.injEq,Prod.mk.injEq,and_true]at c;obtain⟨⟨l,j,k⟩,q,m,p⟩:=c;simp only[Op.eqFields,l,q,j,m,k,p];have n:∀(x y:Value),(part 3 #[x,y] 0).run prog w=.ok x w:=fun x y=>run_part_plain w zhq rfl
 have o:∀(x y:Value),(part 9 #[x,y] 1).run prog w=.ok y w:=fun x y=>run_part_plain w zhr rfl
 have e:(a==b)=((a.1==b.1) && (a.2==b.2)):=rfl;have e2:((⟨a.2.toArray⟩:ByteArray).toList==(⟨b.2.toArray⟩:ByteArray).toList)=(a.2==b.2):=by rw[ByteArray.toList_eq,ByteArray.toList_eq]
 rw[e];simp[n,o,run_equalIn_int w 9998 3 .i64 .i64 a.1 b.1 underlying3,run_equalIn_string w 9998 9 _ _ underlying9];by_cases h:a.1=b.1<;>by_cases h2:a.2=b.2<;>simp[h,h2]
structure MapAt (w:World) (D b:Nat) (gl:List (SK×List Nat)) (vs:List Value) (es:Array MapEntry):Prop where
 blk:w.heap[b]? =some (.map es gl.length)
 lv:vs.length=gl.length
 le:es.size=gl.length
 at_:∀i (h:i<es.size) (h1:i<gl.length) (h2:i<vs.length),es[i]=⟨skv gl[i].1,vs[i],i⟩
 own:∀i (h1:i<vs.length) (h2:i<gl.length),OwnRow intL w D 3 vs[i] gl[i].2
 ap:∀i j (h1:i<vs.length) (h2:j<vs.length),i≠j->∀k,vs[i].ownBlock=some k->vs[j].ownBlock≠some k
 nd:(gl.map (·.1)).Nodup
 lo:b<D
 hd:D<=w.heap.size
theorem zob (em:Bool) (n:Nat) (k:SK) (w:World):(Instr.checkKey em (n+1+1) 77 (skv k)).run prog w=.ok () w:=by
 unfold skv;have a:=zhp;have q:∀(x y:Value),(part 3 #[x,y] 0).run prog w=.ok x w:=fun x y=>run_part_plain w zhq rfl
 have s:∀(x y:Value),(part 9 #[x,y] 1).run prog w=.ok y w:=fun x y=>run_part_plain w zhr rfl
 have i:∀(x:Int),(Instr.checkKey em (n+1) 3 (.int .i64 x)).run prog w=.ok () w:=fun x=>by simp[Instr.checkKey,run_underlying underlying3]
 have e:∀(x:ByteArray),(Instr.checkKey em (n+1) 9 (.string x)).run prog w=.ok () w:=fun x=>by simp[Instr.checkKey,run_underlying underlying9]
 generalize hn:n+1=m at i e;rw[Instr.checkKey];simp only[Sem.run_bind,run_underlying zoa,Result.andThen_ok];rw[<-Array.forIn_toList];obtain⟨d,c⟩:=ex ((prog.fieldsOf 77).toList)
 rw[c]at a ⊢;obtain⟨f,g,rfl⟩:∃f g,d=[f,g]:=by
  rcases d with _|⟨f,_|⟨g,_|⟨h,r⟩⟩⟩
  .simp at a
  .simp at a
  .exact⟨f,g,rfl⟩
  .simp at a
 simp only[List.map_cons,List.map_nil,List.cons.injEq,Prod.mk.injEq,and_true]at a;obtain⟨⟨o,j,l⟩,u,p,t⟩:=a;simp[List.forIn_cons,o,j,l,u,p,t,q,s,i,e]
theorem zeg (em:Bool) (k:SK) (w:World):(Instr.checkKey em 10000 77 (skv k)).run prog w=.ok () w:=zob em 9998 k w
theorem zxg (k:SK) (W:World):∀(gl:List (SK×List Nat)) (vs:List Value) (es:List MapEntry) (m:Nat),es.length=gl.length->vs.length=gl.length->(∀i (h:i<es.length) (h1:i<gl.length) (h2:i<vs.length),es[i].key=skv gl[i].1/\es[i].val=vs[i])->
 (∃j,∃(h1:j<gl.length) (h2:j<vs.length),gl[j].1=k/\(Instr.findAsking 77 (skv k) es m).run prog W=.ok (some (m+j,vs[j])) W)\/((∀g∈gl,g.1≠k)/\(Instr.findAsking 77 (skv k) es m).run prog W=.ok none W):=by
 intro gl
 induction gl with
 |nil=>
  intro vs es m h1 h2 _;obtain rfl:=List.eq_nil_of_length_eq_zero h1;exact .inr ⟨by simp,by simp[Instr.findAsking]⟩
 |cons g gl ih=>
  intro vs es m h1 h2 n
  match es,vs,h1,h2 with
  |e::es,v::vs,h1,h2=>
   obtain⟨f,o⟩:=n 0 (by simp) (by simp) (by simp);simp only[List.getElem_cons_zero]at f o;by_cases hk:g.1=k
   .refine .inl ⟨0,by simp,by simp,by simpa using hk,?_⟩;simp[Instr.findAsking,f,zxf,hk,o]
   .have l:(k==g.1)=false:=by simpa using fun e=>hk e.symm
    have p:(Instr.findAsking 77 (skv k) (e::es) m).run prog W=(Instr.findAsking 77 (skv k) es (m+1)).run prog W:=by
     simp[Instr.findAsking,f,zxf,l]
    rw[p];rcases ih vs es (m+1) (by simpa using h1) (by simpa using h2) (fun i a b c=>by
     have:=n (i+1) (by simp;omega) (by simp;omega) (by simp;omega);simpa using this)with⟨j,a,b,c,d⟩|⟨a,b⟩
    .refine .inl ⟨j+1,by simp;omega,by simp;omega,by simpa using c,?_⟩;rw[d];simp;omega
    .grind
section
variable {w w2:World} {D b:Nat} {gl:List (SK×List Nat)} {vs:List Value} {es:Array MapEntry}
theorem MapAt.find (h:MapAt w D b gl vs es) (k:SK) (W:World):(∃j,∃(h1:j<gl.length) (h2:j<vs.length),gl[j].1=k/\(Instr.findKey 77 (skv k) es.toList).run prog W=.ok (some (j,vs[j])) W)\/((∀g∈gl,g.1≠k)/\(Instr.findKey 77 (skv k) es.toList).run prog W=.ok none W):=by
 rw[run_findKey_eq W (k:=77) (by rw[zoa])];have:=zxg k W gl vs es.toList 0 (by simpa using h.le) h.lv (fun i a h1 h2=>by
  have:=h.at_ i (by simpa using a) h1 h2;simp only[Array.getElem_toList,this];exact⟨trivial,trivial⟩)
 simpa using this
theorem MapAt.look (h:MapAt w D b gl vs es) (k:SK):(∃j,∃(h1:j<gl.length) (h2:j<vs.length),gl[j].1=k/\(Instr.lookup 75 (.map (some b)) (skv k) false).run prog w=.ok vs[j] w)\/((∀g∈gl,g.1≠k)/\(Instr.lookup 75 (.map (some b)) (skv k) false).run prog w=.ok (.slice none 0 0) w):=by
 rcases h.find k w with⟨j,h1,h2,c,a⟩|⟨h1,h2⟩
 .refine .inl ⟨j,h1,h2,c,?_⟩;simp[Instr.lookup,run_underlying underlying75,MapKept.run_getObj_map h.blk,zeg,a]
 .refine .inr ⟨h1,?_⟩;simp[Instr.lookup,run_underlying underlying75,MapKept.run_getObj_map h.blk,zeg,h2]
theorem Kept1.heap {w:World} {g:Nat} (o:Obj):Kept1 g w {w with heap:=w.heap.setIfInBounds g o}:=by
 refine⟨rfl,rfl,rfl,by simp,fun k a=>?_⟩;show(w.heap.setIfInBounds g o)[k]? =_;rw[Array.getElem?_setIfInBounds_ne (Ne.symm a)]
theorem zgi {w:World} {g:Nat} {o o':Obj} (h:w.heap[g]? =some o):({w with heap:=w.heap.setIfInBounds g o'}:World).heap[g]? =some o':=by
 grind
theorem OwnRow.kept1 {α:Type} {L:Lay α} {w w':World} {base g:Nat} {E:TypeId} {v:Value} {l:List α} (h:OwnRow L w base E v l) (hk:Kept1 g w w') (hg:g<base):OwnRow L w' base E v l:=by
 have hlt:=h.lt;refine⟨h.1,h.2.imp id ?_⟩;rintro⟨e,a,d,i,c,f,r⟩;exact⟨e,a,d,i,c,(hk.block e (by omega)).trans f,r⟩
theorem MapAt.entry (h:MapAt w D b gl vs es) (k:SK):∃(w1:World) (gl1:List (SK×List Nat)) (vs1:List Value) (es1:Array MapEntry) (j:Nat),∃(h1:j<gl1.length) (h2:j<vs1.length),(Instr.mapEntry 75 (.map (some b)) (skv k)).run prog w=.ok (.tuple #[vs1[j],.int .i64 (j:Int)]) w1/\Kept1 b w w1/\MapAt w1 D b gl1 vs1 es1/\gl1[j].1=k/\
 (gl1=gl\/((∀g∈gl,g.1≠k)/\gl1=gl++[(k,[])])):=by
 rcases h.find k w with⟨j,h1,h2,p,u⟩|⟨h1,h2⟩
 .have f:j<es.size:=by rw[h.le];exact h1
  have o:(es[j]?.map (·.key)).getD (skv k)=skv k:=by
   rw[Array.getElem?_eq_getElem f,h.at_ j f h1 h2];simp[p]
  have hborn:(es[j]?.map (·.born)).getD 0=j:=by
   rw[Array.getElem?_eq_getElem f,h.at_ j f h1 h2];simp
  have m:(Instr.keyThatStays (skv k) (skv k)).run prog w=.ok (skv k) w:=by
   have:Instr.sameBits 10000 (skv k) (skv k)=true:=by
    show Instr.sameBits (9999+1) (skv k) (skv k)=true;unfold skv;rw[Instr.sameBits];simp[Instr.sameBits,(MapKept.bytes_beq _ _).2 rfl]
   simp[Instr.keyThatStays,this]
  have n:es.modify j (fun e=>{e with key:=skv k})=es:=by
   apply Array.ext
   .simp
   .intro i a c;rw[Array.getElem_modify];split
    .subst i;rw[h.at_ j f h1 h2,p]
    .rfl
  refine⟨{w with heap:=w.heap.setIfInBounds b (.map es gl.length)},gl,vs,es,j,h1,h2,?_,Kept1.heap _,?_,p,.inl rfl⟩
  .simp[Instr.mapEntry,run_underlying underlying75,MapKept.run_getObj_map h.blk,zeg,u,o,m,n,MapKept.run_setObj_map _ h.blk,goInt];rw[Array.getElem?_eq_getElem f,h.at_ j f h1 h2];simp
  .exact⟨zgi h.blk,h.lv,h.le,h.at_,fun i a c=>(h.own i a c).kept1 (Kept1.heap _) h.lo,h.ap,h.nd,h.lo,by have:=h.hd;simpa using this⟩
 .have hb:=h.lo;refine⟨{w with heap:=w.heap.setIfInBounds b (.map (es.push ⟨skv k,.slice none 0 0,gl.length⟩) (gl.length+1))},gl++[(k,[])],vs++[.slice none 0 0],es.push ⟨skv k,.slice none 0 0,gl.length⟩,gl.length,by simp,by simp[h.lv],?_,Kept1.heap _,?_,by simp,.inr ⟨h1,rfl⟩⟩
  .have:(vs++[Value.slice none 0 0])[gl.length]'(by simp[h.lv])=.slice none 0 0:=by simp[<-h.lv]
   simp[Instr.mapEntry,run_underlying underlying75,MapKept.run_getObj_map h.blk,zeg,h2,MapKept.run_setObj_map _ h.blk,goInt,this]
  .refine⟨?_,by simp[h.lv],by simp[h.le],?_,?_,?_,?_,h.lo,by have:=h.hd;simpa using this⟩
   .rw[zgi h.blk];simp
   .intro i a c d;simp only[Array.size_push,List.length_append,List.length_cons,List.length_nil,h.le]at a c d;by_cases hi:i<gl.length
    .rw[Array.getElem_push_lt (by rw[h.le];exact hi),h.at_ i (by rw[h.le];exact hi) hi (by rw[h.lv];exact hi),List.getElem_append_left hi,List.getElem_append_left (by rw[h.lv];exact hi)]
    .have l:i=gl.length:=by omega
     subst l;have x:(es.push ⟨skv k,.slice none 0 0,gl.length⟩)[gl.length]'(by simp[h.le])=⟨skv k,.slice none 0 0,gl.length⟩:=by
      simp[Array.getElem_push,h.le]
     rw[x];have q:(vs++[Value.slice none 0 0])[gl.length]'(by simp[h.lv])=.slice none 0 0:=by simp[<-h.lv]
     rw[q];simp
   .intro i a c;simp only[List.length_append,List.length_cons,List.length_nil]at a c;by_cases hi:i<gl.length
    .have s:i<vs.length:=by rw[h.lv];exact hi
     rw[List.getElem_append_left s,List.getElem_append_left hi];exact(h.own i s hi).kept1 (Kept1.heap _) h.lo
    .have l:i=gl.length:=by omega
     subst l;have q:(vs++[Value.slice none 0 0])[gl.length]'(by simp[h.lv])=.slice none 0 0:=by simp[<-h.lv]
     rw[q];simp only[List.getElem_concat_length];exact OwnRow.nil
   .intro i j a c r g e;simp only[List.length_append,List.length_cons,List.length_nil]at a c;by_cases hi:i<vs.length
    .rw[List.getElem_append_left hi]at e;by_cases hj:j<vs.length
     .rw[List.getElem_append_left hj];exact h.ap i j hi hj r g e
     .have f:j=vs.length:=by omega
      subst f;simp[Value.ownBlock]
    .have l:i=vs.length:=by omega
     subst l;simp[Value.ownBlock]at e
   .rw[List.map_append,List.nodup_append];refine⟨h.nd,by simp,?_⟩;intro a v c t;simp at t;subst t;obtain⟨g,y,rfl⟩:=List.mem_map.1 v;exact h1 g y
theorem MapAt.store (h:MapAt w D b gl vs es) {j:Nat} (h1:j<gl.length) (h2:j<vs.length) {v2:Value} {l:List Nat} (ho:OwnRow intL w2 D 3 v2 l) (hg:w.grownBy w2 (vs[j]).ownBlock) (hat:v2.ownBlock=(vs[j]).ownBlock\/v2.ownBlock=some w.heap.size):
 ∃w3 es3,(Instr.entryStore 75 (.map (some b)) (.int .i64 (j:Int)) v2).run prog w2=.ok () w3/\Kept1 b w2 w3/\MapAt w3 D b (gl.set j (gl[j].1,l)) (vs.set j v2) es3:=by
 have o:=h.lo;have hsz:=hg.size;have n:j<es.size:=by rw[h.le];exact h1
 have m:w2.heap[b]? =some (.map es gl.length):=(hg.block b (by have:=h.hd;omega) (fun e=>by have:=((h.own j h2 h1).lt b e.symm).1;omega)).trans h.blk;have q:es.findIdx? (fun e=>((e.born:Nat):Int)==(j:Int))=some j:=by
  rw[Array.findIdx?_eq_some_iff_getElem];refine⟨n,by rw[h.at_ j n h1 h2];simp,fun i f=>?_⟩;rw[h.at_ i (by omega) (by omega) (by have:=h.lv;omega)];simp;omega
 have hap:∀i (a:i<vs.length),i≠j->∀k,v2.ownBlock=some k->vs[i].ownBlock≠some k:=by
  intro i a p k e r;rcases hat with h3|h3
  .exact h.ap i j a h2 p k r (h3.symm.trans e)
  .have:=((h.own i a (by have:=h.lv;omega)).lt k r).2;rw[h3]at e;injection e with e;omega
 refine⟨{w2 with heap:=w2.heap.setIfInBounds b (.map (es.modify j fun e=>{e with val:=v2}) gl.length)},es.modify j fun e=>{e with val:=v2},?_,Kept1.heap _,?_⟩
 .simp[Instr.entryStore,MapKept.run_getObj_map m,asInt,asIntOf,q,MapKept.run_setObj_map _ m]
 .refine⟨by rw[zgi m];simp,by simp[h.lv],by simp[h.le],?_,?_,?_,?_,o,by have:=h.hd;simp;omega⟩
  .intro i a c d;simp only[Array.size_modify,List.length_set]at a c d;rw[Array.getElem_modify];by_cases f:i=j
   .subst f;simp only[if_true,List.getElem_set_self];rw[h.at_ i n h1 h2]
   .rw[if_neg (by omega),List.getElem_set_ne (by omega),List.getElem_set_ne (by omega),h.at_ i (by rw[h.le];simpa using c) (by simpa using c) (by simpa using d)]
  .intro i a c;have s:i<vs.length:=by simpa using a
   have t:i<gl.length:=by simpa using c
   by_cases f:i=j
   .subst f;simp only[List.getElem_set_self];exact ho.kept1 (Kept1.heap _) o
   .simp only[List.getElem_set_ne (Ne.symm f)];exact((h.own i s t).off hg (fun k e r=>h.ap i j s h2 f k e r.symm)).kept1 (Kept1.heap _) o
  .intro i u a c p g e;have s:i<vs.length:=by simpa using a
   have t:u<vs.length:=by simpa using c
   by_cases f:i=j
   .grind
   .simp only[List.getElem_set_ne (Ne.symm f)]at e;by_cases hj:u=j
    .grind
    .simp only[List.getElem_set_ne (Ne.symm hj)];exact h.ap i u s t p g e
  .have:(gl.set j (gl[j].1,l)).map (·.1)=gl.map (·.1):=by
    apply List.ext_getElem
    .simp
    .grind
   rw[this];exact h.nd
end
structure GI (kd:Nat->SK) (P:List Nat) (gl:List (SK×List Nat)):Prop where
 grp:∀g∈gl,g.2=P.filter (fun x=>kd x==g.1)
 all:∀x∈P,∃g∈gl,g.1=kd x
theorem GI.nil (kd:Nat->SK):GI kd [] []:=⟨fun _ h=>(by cases h),fun _ h=>(by cases h)⟩
theorem GI.none {kd:Nat->SK} {P:List Nat} {gl:List (SK×List Nat)} (h:GI kd P gl) {k:SK} (hk:∀g∈gl,g.1≠k):P.filter (fun x=>kd x==k)=[]:=by
 rw[List.filter_eq_nil_iff];intro x d e;obtain⟨g,a,c⟩:=h.all x d;exact hk g a (c.trans (by simpa using e))
theorem GI.next {kd:Nat->SK} {P:List Nat} {gl gl1:List (SK×List Nat)} (h:GI kd P gl) {x j:Nat} (h1:j<gl1.length) (hk:gl1[j].1=kd x) (hor:gl1=gl\/((∀g∈gl,g.1≠kd x)/\gl1=gl++[(kd x,[])])) (hn:(gl1.map (·.1)).Nodup):
 GI kd (P++[x]) (gl1.set j (gl1[j].1,gl1[j].2++[x])):=by
 have d:GI kd P gl1:=by
  rcases hor with rfl|⟨h2,rfl⟩
  .exact h
  .refine⟨fun g hg=>?_,fun y hy=>?_⟩
   .rcases List.mem_append.1 hg with hg|hg
    .exact h.grp g hg
    .simp at hg;subst hg;exact(h.none h2).symm
   .obtain⟨g,hg,k⟩:=h.all y hy;exact⟨g,List.mem_append_left _ hg,k⟩
 have hj:=d.grp _ (List.getElem_mem h1);refine⟨fun g hg=>?_,fun y hy=>?_⟩
 .obtain⟨i,c,rfl⟩:=List.getElem_of_mem hg;simp only[List.length_set]at c;by_cases hij:i=j
  .grind
  .simp only[List.getElem_set_ne (Ne.symm hij),List.filter_append];rw[<-d.grp _ (List.getElem_mem c)];have f:gl1[i].1≠kd x:=fun e=>by
    have hn':=List.pairwise_iff_getElem.1 (show(gl1.map (·.1)).Pairwise (· ≠·)from hn);rcases Nat.lt_or_gt_of_ne hij with h3|h3
    .grind
    .grind
   simp[Ne.symm f]
 .have a:∀g∈gl1,∃g'∈gl1.set j (gl1[j].1,gl1[j].2++[x]),g'.1=g.1:=by
   intro g hg;obtain⟨i,c,rfl⟩:=List.getElem_of_mem hg;refine⟨(gl1.set j (gl1[j].1,gl1[j].2++[x]))[i]'(by simpa using c),List.getElem_mem _,?_⟩;by_cases hij:i=j
   .subst hij;simp
   .grind
  rcases List.mem_append.1 hy with hy|hy
  .obtain⟨g,hg,k⟩:=d.all y hy;obtain⟨g',h3,l⟩:=a g hg;exact⟨g',h3,l.trans k⟩
  .grind
theorem zc5 (ns:List Gr.Nd) (f:Nat) (l:List Nat) (z:Nat):twice1 ns f (l++[z])=(twice1 ns f l || l.any (fun x=>sameF ns f z x)):=by
 induction l with
 |nil=>rfl
 |cons x l ih=>
  rw[List.cons_append];show((l++[z]).any (fun y=>sameF ns f y x) || twice1 ns f (l++[z]))=((l.any (fun y=>sameF ns f y x) || twice1 ns f l) || (x::l).any (fun x=>sameF ns f z x))
  rw[ih];simp only[List.any_append,List.any_cons,List.any_nil,Bool.or_false];cases l.any (fun y=>sameF ns f y x)<;>cases sameF ns f z x<;>cases twice1 ns f l<;>simp
theorem zjf (ns:List Gr.Nd) (f:Nat) (l m:List Nat) (h:twice1 ns f l=true):twice1 ns f (l++m)=true:=by
 induction m generalizing l with
 |nil=>simpa using h
 |cons x m ih=>
  rw[show l++x::m=(l++[x])++m from by simp];exact ih _ (by rw[zc5,h];rfl)
theorem zjg (ns:List Gr.Nd) (f:Nat) (l:List Nat) (k:Nat) (h:twice1 ns f (l.take k)=true):twice1 ns f l=true:=by
 have:=zjf ns f (l.take k) (l.drop k) h;rwa[List.take_append_drop]at this
def kdOf (ns:List Gr.Nd) (x:Nat):SK:=((ns.getD x ⟨0,[],false,[],[]⟩).kind,(ns.getD x ⟨0,[],false,[],[]⟩).text)
theorem zvc {ns:List Gr.Nd} {f i j:Nat} (h:sameF ns f i j=true):kdOf ns i=kdOf ns j:=by
 cases f with
 |zero=>cases h
 |succ f=>
  unfold sameF at h;split at h
  .rename_i a b ha hb;have d:ns.getD i ⟨0,[],false,[],[]⟩=a:=by rw[List.getD_eq_getElem?_getD,ha];rfl
   have c:ns.getD j ⟨0,[],false,[],[]⟩=b:=by rw[List.getD_eq_getElem?_getD,hb];rfl
   unfold kdOf;rw[d,c];split at h
   .cases h
   .rename_i hn;simp only[not_or,Classical.not_not]at hn;rw[hn.1,hn.2.1]
  .cases h
theorem MapAt.later {w w':World} {D b:Nat} {gl:List (SK×List Nat)} {vs:List Value} {es:Array MapEntry} (h:MapAt w D b gl vs es) (hb:Below w.heap.size w w'):MapAt w' D b gl vs es:=
 ⟨(hb.block b (by have:=h.lo;have:=h.hd;omega)).trans h.blk,h.lv,h.le,h.at_,fun i a c=>(h.own i a c).later hb,h.ap,h.nd,h.lo,Nat.le_trans h.hd hb.size⟩
theorem MapAt.lookL {w:World} {D b:Nat} {gl:List (SK×List Nat)} {vs:List Value} {es:Array MapEntry} (h:MapAt w D b gl vs es) {kd:Nat->SK} {P:List Nat} (hg:GI kd P gl) (k:SK):
 ∃A c,(Instr.lookup 75 (.map (some b)) (skv k) false).run prog w=.ok (.slice A (P.filter (fun x=>kd x==k)).length c) w/\RowAt intL w w.heap.size A (P.filter (fun x=>kd x==k)):=by
 rcases h.look k with⟨j,a,d,l,i⟩|⟨a,d⟩
 .obtain⟨A,c,f,g⟩:=(h.own j d a).form;have e:=hg.grp _ (List.getElem_mem a);rw[l]at e;rw[e]at f g;exact⟨A,c,by rw[i,f],g⟩
 .rw[hg.none a];exact⟨none,0,d,RowAt.nil⟩
theorem zoc (F:Nat) (A:Option Addr) (c:Nat) (root:Int) (vs:List NV) (ns:List Gr.Nd) (hr:Refs ns) (hl:ns.length<=1073741823) (hks:∀n∈ns,n.keys.length<=1073741823/\n.items.length<=1073741823)
 (hsame:∀x∈allKeys ns,∀y∈allKeys ns,∀W,GAt W W.heap.size A vs ns->Calls prog 50 #[.agg #[.slice A ns.length c,.int .i64 root],.int .i64 x,.int .i64 y] W fun e W'=>e=.returned (.bool (sameF ns F x y))/\Below W.heap.size W W')
 (w:World) (h:GAt w w.heap.size A vs ns):
 Calls prog 31 #[.agg #[.slice A ns.length c,.int .i64 root]] w fun e w'=>e=.returned (.bool (twice ns F))/\Below w.heap.size w w':=by
 have H:=hid h;have au:=hid hsame;have hmm:= @run_makeMap prog;clear h hsame;go_enter func31,ntmps31;go_upto_region 1 with fail;obtain⟨w1,af⟩:=ex (w.alloc (.cells #[.slice A ns.length c,.int .i64 root] 24))
 (try rw[af]);have l1:Below w.heap.size w w1:=by rw[<-af];exact(Below.refl _ _).alloc (Nat.le_refl _) _
 have b1:Blk w1 w.heap.size 24 #[.slice A ns.length c,.int .i64 root]:=by rw[<-af];exact Blk.new _ _ _
 obtain⟨gb,ag⟩:=ex w.heap.size
 have d:=hid ag;have L1:=hid l1;(try rw[ag]);rw[ag]at b1;have aS:=hid b1;have H1:=hid (H.out.below l1);have g0:w1.cell? ⟨gb,0,none⟩=some (.slice A ns.length c):=b1.cell 0;have p:Hid (gb<w1.heap.size):=hid b1.lt;clear af ag l1 b1;go_upto_region 2 with fail;clear g0;go_loopw [14] (fun s14 wr=>∃j:Nat,j<=ns.length/\s14=.int .i64 j/\Hid (Below w1.heap.size w1 wr/\(ns.take j).any (fun x=>twice1 ns F x.keys)=false)) (fun s14 _=>ns.length-(intOf s14).toNat)
 case atStart=>exact⟨0,by omega,rfl,hid ⟨Below.refl _ _,by simp⟩⟩
 case round=>
  obtain⟨j,hj,rfl,K⟩:=hrel;obtain⟨J,bm⟩:∃J,J=wr:=⟨_,rfl⟩
  subst bm;by_cases hlt:j<ns.length
  .have aX:(j:Int)<(ns.length:Int):=by omega
   have ae:Hid (gb<J.heap.size/\w1.heap.size<=J.heap.size):=hid ⟨by have:=K.out.1.size;have:=p.out;omega,K.out.1.size⟩;obtain⟨ad,ks,is,rfl,V⟩:=(H1.out.below (K.out.1.mono (by have:=p.out;have:=d.out;omega))).node hlt;obtain⟨ka,kn,kc⟩:=ks;obtain⟨ia,bh,ic⟩:=is;have T:ns[j]∈ns:=List.getElem_mem hlt;obtain⟨a6,bg⟩:=hks _ T;have ao:Hid (∀x∈ns[j].keys,x∈allKeys ns/\x<ns.length):=hid (fun x hx=>⟨List.mem_flatMap.2 ⟨_,T,hx⟩,hr _ T x (List.mem_append_left _ hx)⟩);have am:Hid ((ns.take (j+1)).any (fun x=>twice1 ns F x.keys)=twice1 ns F ns[j].keys/\(twice1 ns F ns[j].keys=true->twice ns F=true)):=hid ⟨by
    rw[List.take_succ_eq_append_getElem hlt,List.any_append,K.out.2];simp,fun e=>List.any_eq_true.2 ⟨_,T,e⟩⟩
   obtain⟨n,hn⟩:=ex (ns[j])
   rw[hn]at V a6 bg ao am;obtain rfl:kn=n.keys.length:=V.kn;obtain rfl:bh=n.items.length:=V.inn;have x0:=V.c0;have x1:=V.c1;have x2:=V.c2;have x3:=V.c3;have x4:=V.c4;have a7:=hid V.keys;clear V T hn;go_upto_region 5 with fail;obtain⟨B,I⟩:=ex ((J.alloc (.cells #[.int .i64 n.kind,.string ⟨n.text.toArray⟩,.bool n.ord,.slice ka n.keys.length kc,.slice ia n.items.length ic] 38)).alloc (.map #[] 0))
   obtain⟨lb,u⟩:=ex J.heap.size
   have b5:Blk B lb 38 #[.int .i64 n.kind,.string ⟨n.text.toArray⟩,.bool n.ord,.slice ka n.keys.length kc,.slice ia n.items.length ic]:=by rw[<-I,<-u];exact(Blk.new _ _ _).alloc _
   have m5:B.heap[lb+1]? =some (.map #[] 0):=by
    rw[<-I,<-u];have:=heap_alloc_new (J.alloc (.cells #[.int .i64 n.kind,.string ⟨n.text.toArray⟩,.bool n.ord,.slice ka n.keys.length kc,.slice ia n.items.length ic] 38)) (.map #[] 0);rw[World.size_alloc]at this;exact this
   have l5:Below J.heap.size J B:=by rw[<-I];exact((Below.refl _ _).alloc (Nat.le_refl _) _).alloc (by simp) _
   have aa:B.heap.size=lb+1+1:=by rw[<-I,<-u];simp
   obtain⟨q,ab⟩:=ex (lb+1)
   rw[ab]at m5 aa;have aw:MapAt B (q+1) q [] [] #[]:=⟨m5,rfl,rfl,fun i h=>by simp at h,fun i h=>by simp at h,fun i j h=>by simp at h,by simp,by omega,by omega⟩
   obtain⟨D,hD⟩:=ex (q+1)
   rw[hD]at aw aa;have a:Hid (gb<lb/\lb+1=q/\q+1=D/\J.heap.size=lb/\B.heap.size=D):=hid ⟨by have:=ae.out;omega,ab,hD,u,aa⟩;have s3:B.cell? ⟨lb,3,none⟩=some (.slice ka n.keys.length kc):=b5.cell 3;have a5:=hid aw;have HB5:=hid b5;have L5:Hid (Below lb J B):=hid (by rw[<-u];exact l5);have a3:Hid (RowAt intL B gb ka n.keys):=hid (by
    have h1:=a7.out;rw[d.out]at h1;exact h1.below (l5.mono (by have:=ae.out;omega)))
   rw[I];(try rw[u]);rw[ab];clear I b5 m5 l5 aa ab aw hD u x0 x1 x2 x3 x4;go_upto_region 6 with fail;clear s3;go_loopw [22] (fun s22 wr=>∃k:Nat,k<=n.keys.length/\s22=.int .i64 k/\Hid (Below q B wr/\(∃gl vs es,MapAt wr D q gl vs es/\GI (kdOf ns) (n.keys.take k) gl)/\twice1 ns F (n.keys.take k)=false)) (fun s22 _=>n.keys.length-(intOf s22).toNat)
   case atStart=>exact⟨0,by omega,rfl,hid ⟨Below.refl _ _,⟨_,_,_,a5.out,by simpa using GI.nil _⟩,by simp[twice1]⟩⟩
   case round=>
    obtain⟨k,hk,rfl,HV⟩:=hrel;obtain⟨S,bd⟩:∃S,S=wr:=⟨_,rfl⟩
    subst bd;by_cases hlk:k<n.keys.length
    .have aW:(k:Int)<(n.keys.length:Int):=by omega
     obtain⟨x,hx⟩:=ex (n.keys[k])
     obtain⟨ar,aq⟩:=ao.out n.keys[k] (List.getElem_mem hlk);rw[hx]at ar aq;have aY:Below gb B S:=HV.out.1.mono (by have:=a.out;omega);obtain⟨adk,rfl,hadk,y0⟩:=zaf (a3.out.below aY) hlk;rw[hx]at y0;have hxI:(x:Int)<(ns.length:Int):=by omega
     have g0:S.cell? ⟨gb,0,none⟩=some (.slice (some ad) ns.length c):=(((aS.out.below K.out.1 p.out).below L5.out a.out.1).below HV.out.1 (by have:=a.out;omega)).cell 0;have aK:GAt S w.heap.size (some ad) vs ns:=((H1.out.below (K.out.1.mono (by have:=p.out;have:=d.out;omega))).below (L5.out.mono (by have:=d.out;have:=a.out;omega))).below (HV.out.1.mono (by have:=d.out;have:=a.out;omega));obtain⟨ad',kx,ix,O,hX⟩:=aK.node aq;injection O with O
     subst O;have aB:kdOf ns x=(ns[x].kind,ns[x].text):=by unfold kdOf;rw[List.getD_eq_getElem?_getD,List.getElem?_eq_getElem aq];rfl
     obtain⟨nx,aZ⟩:=ex (ns[x])
     rw[aZ]at hX aB;have z0:=hX.c0;have z1:=hX.c1;have aD:=hid aB;have bk:=hid ar;have HX:=hid hx;clear hX aB aZ ar hx aY aK;go_upto_region 8 with fail;go_region_held3 (fun w'=>w'.cell? ⟨gb,0,none⟩=some (.slice (some ad) ns.length c)/\w'.cell? (ad.add (x*5))=some (.int .i64 nx.kind)/\w'.cell? {block:=(ad.add (x*5)).block,off:=(ad.add (x*5)).off+1}=some (.string ⟨nx.text.toArray⟩)) (go_keep) (fail);go_upto_region 9 with fail;obtain⟨P,Q⟩:=ex ((S.alloc (.cells #[.int .i64 nx.kind,.string ⟨nx.text.toArray⟩] 77)).drew)
     obtain⟨sb,M⟩:=ex S.heap.size
     have b8:Blk P sb 77 #[.int .i64 nx.kind,.string ⟨nx.text.toArray⟩]:=by rw[<-Q,<-M];exact(Blk.new _ _ _).drew
     have l8:Below S.heap.size S P:=by rw[<-Q];exact below_drewN ((Below.refl _ _).alloc (Nat.le_refl _) _) 1
     have aP:P.heap.size=sb+1:=by rw[<-Q,<-M];simp[World.drew]
     obtain⟨gl,vl,es,hM,Z⟩:=HV.out.2.1;have ax:=hM.later l8;obtain⟨AL,cL,f,av⟩:=ax.lookL Z (kdOf ns x);have az:∀y∈(n.keys.take k).filter (fun y=>kdOf ns y==kdOf ns x),y∈n.keys.take k:=fun y hy=>(List.mem_filter.1 hy).1
     have v:((n.keys.take k).filter (fun y=>kdOf ns y==kdOf ns x)).any (fun y=>sameF ns F x y)=false->(n.keys.take k).any (fun y=>sameF ns F x y)=false:=by
      intro h1;rw[List.any_eq_false]at h1 ⊢;intro y hy h2;exact h1 y (List.mem_filter.2 ⟨hy,by have:=zvc h2;simp[this]⟩) h2
     have a4:((n.keys.take k).filter (fun y=>kdOf ns y==kdOf ns x)).length<=1073741823:=Nat.le_trans (List.length_filter_le _ _) (Nat.le_trans (List.length_take_le _ _) (by omega));obtain⟨L,hL⟩:=ex ((n.keys.take k).filter (fun y=>kdOf ns y==kdOf ns x))
     rw[hL]at f av az v a4;rw[aD.out]at f;unfold skv at f;simp only at f;obtain⟨t0,t1⟩:=cells2 b8;have be:Hid (∃gl vs es,MapAt P D q gl vs es/\GI (kdOf ns) (n.keys.take k) gl):=hid ⟨gl,vl,es,ax,Z⟩;have aF:Hid (S.heap.size=sb/\P.heap.size=sb+1/\D<=sb):=hid ⟨M,aP,by have:=hM.hd;omega⟩;have aN:Hid (Below q B P/\twice1 ns F (n.keys.take k)=false):=hid ⟨HV.out.1.trans (l8.mono (by have:=hM.hd;have:=a.out;omega)),HV.out.2.2⟩;have aI:=hid b8;have a9:=hid av;have bi:=hid az;have bf:=hid v;rw[Q];(try rw[M]);clear Q M b8 l8 aP hM Z ax av az v hL g0 z0 z1 y0;go_upto_region 10 with fail;clear f t0 t1;go_loopw [43] (fun s43 wr=>∃r:Nat,r<=L.length/\s43=.int .i64 r/\Hid (Below P.heap.size P wr/\(L.take r).any (fun y=>sameF ns F x y)=false)) (fun s43 _=>L.length-(intOf s43).toNat)
     case atStart=>exact⟨0,by omega,rfl,hid ⟨Below.refl _ _,by simp⟩⟩
     case round=>
      obtain⟨r,hr2,rfl,X⟩:=hrel;obtain⟨o,ba⟩:∃o,o=wr:=⟨_,rfl⟩
      subst ba;have s:Below q B o:=aN.out.1.trans (X.out.1.mono (by have:=aF.out;have:=a.out;omega));by_cases hrl:r<L.length
      .have aM:(r:Int)<(L.length:Int):=by omega
       obtain⟨y,hy⟩:=ex (L[r])
       have ap:y∈n.keys.take k:=by rw[<-hy];exact bi.out _ (List.getElem_mem hrl)
       have aV:y∈n.keys:=List.mem_of_mem_take ap;obtain⟨aE,hyn⟩:=ao.out y aV;obtain⟨adl,rfl,_,y0⟩:=zaf (a9.out.below X.out.1) hrl;rw[hy]at y0;have aH:=(((aS.out.below K.out.1 p.out).below L5.out a.out.1).below s (by have:=a.out;omega))
       obtain⟨g0,g1⟩:=cells2 aH;have aJ:GAt o o.heap.size (some ad) vs ns:=(((H1.out.below (K.out.1.mono (by have:=p.out;have:=d.out;omega))).below (L5.out.mono (by have:=d.out;have:=a.out;omega))).below (s.mono (by have:=d.out;have:=a.out;omega))).more (by have:=X.out.1.size;have:=aF.out;have:=a.out;have:=d.out;omega);have HC:=hid (au.out x bk.out y aE o aJ);have aR:Hid ((L.take (r+1)).any (fun y=>sameF ns F x y)=sameF ns F x y):=hid (by rw[List.take_succ_eq_append_getElem hrl,List.any_append,X.out.2,hy];simp);have a0:Hid (sameF ns F x y=true->twice ns F=true):=hid (fun e=>am.out.2 (by
        refine zjg ns F n.keys (k+1) ?_;rw[zai _ _ hlk,zc5,HX.out];have:(n.keys.take k).any (fun z=>sameF ns F x z)=true:=List.any_eq_true.2 ⟨y,ap,e⟩;rw[this];simp))
       obtain⟨b,hb⟩:=ex (sameF ns F x y)
       rw[hb]at HC aR a0;have aC:Hid (Below w.heap.size w o):=hid ((L1.out.trans (K.out.1.mono (by have:=p.out;have:=d.out;omega))).trans ((L5.out.mono (by have:=d.out;have:=a.out;omega)).trans (s.mono (by have:=d.out;have:=a.out;omega))));have aU:Hid (w.heap.size<=o.heap.size/\P.heap.size<=o.heap.size):=hid ⟨aC.out.size,X.out.1.size⟩;clear aH aJ hy aV ap aE hb s;go_wp2_with fail;refine HC.out.mono ?_;rintro e w9 ⟨rfl,ac⟩;cases b with
       |true=>
        have ai:Hid (twice ns F=true/\Below w.heap.size w w9):=hid ⟨a0.out rfl,aC.out.trans (ac.mono aU.out.1)⟩;clear ac;go_wp2;go_ret;rw[ai.out.1];exact⟨rfl,ai.out.2⟩
       |false=>
        have N:Hid (Below P.heap.size P w9/\(L.take (r+1)).any (fun y=>sameF ns F x y)=false):=hid ⟨X.out.1.trans (ac.mono aU.out.2),aR.out⟩;clear ac;go_wp2;go_roundw
        case rel=>exact⟨r+1,by omega,by go_num,N⟩
        case measure=>simp[intOf];omega
      .have aM:¬(r:Int)<(L.length:Int):=by omega
       have aO:twice1 ns F (n.keys.take (k+1))=false:=by
        rw[zai _ _ hlk,zc5,HX.out,aN.out.2,bf.out (by
         have:=X.out.2;rwa[show r=L.length from by omega,List.take_length]at this)]
        rfl
       obtain⟨gl,vl,es,hM,Z⟩:=be.out;have aL:=(hM.later X.out.1).later ((Below.refl o.heap.size o).alloc (Nat.le_refl _) (.cells #[.int .i64 x] 3));obtain⟨wE,m,an,bb,jj,Y,q2,hE,G,l,U,E⟩:=aL.entry (kdOf ns x);obtain⟨t0,t1⟩:=cells2 (aI.out.below X.out.1 aI.out.lt);have hq:=(l.own jj q2 Y)
       obtain⟨Aj,cj,t,bc⟩:=hq.form;clear bc;rw[t]at hE hq;rw[aD.out]at hE;unfold skv at hE;simp only at hE;have bl:m[jj].2.length<=1073741823:=by
        have ah:∀g∈gl,g.2.length<=k:=fun g hg=>by
         rw[Z.grp g hg];exact Nat.le_trans (List.length_filter_le _ _) (List.length_take_le _ _)
        have:∀g∈m,g.2.length<=k:=by
         rcases E with rfl|⟨_,rfl⟩
         .exact ah
         .intro g hg;rcases List.mem_append.1 hg with hg|hg
          .exact ah g hg
          .simp at hg;subst hg;simp
        have:=this _ (List.getElem_mem Y);omega
       obtain⟨lj,C⟩:=ex (m[jj].2)
       rw[C]at hE hq t bl;have ak:o.heap.size≠q:=by have:=hM.lo;have:=hM.hd;have:=X.out.1.size;omega
       have R:RowAt intL wE (o.heap.size+1) (some ⟨o.heap.size,0,none⟩) [x]:=RowAt.ofBlk (G.blk (Blk.new o 3 #[.int .i64 x]) ak) rfl (by omega);have HE:Hid (∃(Y:jj<m.length) (q2:jj<an.length),Kept1 q (o.alloc (.cells #[.int .i64 x] 3)) wE/\MapAt wE D q m an bb/\m[jj].1=kdOf ns x/\(m=gl\/((∀g∈gl,g.1≠kdOf ns x)/\m=gl++[(kdOf ns x,[])]))/\m[jj].2=lj/\an[jj]=.slice Aj lj.length cj/\GI (kdOf ns) (n.keys.take k) gl):=hid ⟨Y,q2,G,l,U,E,C,t,Z⟩;have a1:=hid aO;have HQ:=hid hq;have aG:=hid R;have a2:Hid (D<=wE.heap.size):=hid l.hd;have bj:=hid s;have a8:Hid (q<=o.heap.size):=hid (by have:=s.size;have:=a.out;omega);clear hM Z aL G l U E C t hq R aO s ak Y q2;go_wp2_with (at_builtin;go_must (refine zaa _ rfl (.tmp 54) (.tmp 56) 36 3 8 rfl intT D (.slice Aj lj.length cj) lj rfl HQ.out _ _ 1 [x] rfl aG.out ?_ ?_ ?_))
       any_goals (first|exact a2.out| (simp;omega))
       intro v' w3 aj hg aA;obtain⟨Y,q2,G,l,U,E,C,t,Z⟩:=HE.out;rw[<-t]at hg aA;obtain⟨w4,es3,hST,aT,aQ⟩:=l.store Y q2 aj hg aA;have ay:=Z.next Y U E l.nd;rw[C]at ay;have N:Hid (Below q B w4/\(∃gl vs es,MapAt w4 D q gl vs es/\GI (kdOf ns) (n.keys.take (k+1)) gl)/\twice1 ns F (n.keys.take (k+1))=false):=hid ⟨
        (((bj.out.alloc a8.out _).trans (G.below (Nat.le_refl _))).trans (((l.own jj q2 Y).grown_below hg l.hd).mono (by have:=a.out;omega))).trans (aT.below (Nat.le_refl _)),
        ⟨_,_,_,aQ,by rw[zai _ _ hlk,HX.out];exact ay⟩,a1.out⟩
       clear aj hg aA G l U E C t Z aT aQ ay Y q2;go_wp2;go_roundw
       case rel=>exact⟨k+1,by omega,by go_num,N⟩
       case measure=>simp[intOf];omega
    .have aW:¬(k:Int)<(n.keys.length:Int):=by omega
     have N:Hid (Below w1.heap.size w1 S/\(ns.take (j+1)).any (fun x=>twice1 ns F x.keys)=false):=hid ⟨(K.out.1.trans (L5.out.mono (by have:=ae.out;have:=a.out;omega))).trans (HV.out.1.mono (by have:=ae.out;have:=a.out;omega)),by
      have:=HV.out.2.2;rw[show k=n.keys.length from by omega,List.take_length]at this;rw[am.out.1,this]⟩
     go_wp2;go_roundw
     case rel=>exact⟨j+1,by omega,by go_num,N⟩
     case measure=>simp[intOf];omega
  .have aX:¬(j:Int)<(ns.length:Int):=by omega
   have al:Hid (twice ns F=false/\Below w.heap.size w J):=hid ⟨by
    have:=K.out.2;rw[show j=ns.length from by omega,List.take_length]at this;exact this,L1.out.trans (K.out.1.mono (by have:=p.out;have:=d.out;omega))⟩
   go_wp2;go_ret;rw[al.out.1];exact⟨rfl,al.out.2⟩
end Go.Proofs.YtpgmfihonmoliaaGreatDoor

import Derived.Test.YtpjmhafmeieloabGreatDoorZ09
namespace Go.Proofs.YtpjmhafmeieloabGreatDoor
open Gr
open _root_.Go.Proofs.Tryz
open _root_.Go.Lib (hid)
set_option maxRecDepth 100000
set_option maxHeartbeats 16000000
open Go.RowKit
structure DepF (w:World) (gb rC rB:Nat) (A Az:Option Addr) (c:Nat) (root:Int) (vs:List NV) (ns:List Gr.Nd) (inn:List Int) (sizes:List Nat):Prop where
 bg:Blk w gb 27 #[.slice A ns.length c,.int .i64 root]
 lg:gb<rB
 bc:Blk w rC 3 (jcells inn)
 lc:rC<rB
 rz:RowAt intL w rB Az sizes
 at_:GAt w rB A vs ns
theorem DepF.below {w w':World} {gb rC rB:Nat} {A Az:Option Addr} {c:Nat} {root:Int} {vs:List NV} {ns:List Gr.Nd} {inn:List Int} {sizes:List Nat} (h:DepF w gb rC rB A Az c root vs ns inn sizes) (hb:Below rB w w'):DepF w' gb rC rB A Az c root vs ns inn sizes:=
 ⟨h.bg.below hb h.lg,h.lg,h.bc.below hb h.lc,h.lc,h.rz.below hb,h.at_.below hb⟩
theorem zvz (t:Gr.TS) (v:Nat):t.cn v=t.inn.getD v (-1):=rfl
theorem zh6 (A:Option Addr) (c root:Nat) (vs:List NV) (ns:List Gr.Nd) (hr:Refs ns) (hl:ns.length<=1073741823) (hks:∀n∈ns,n.keys.length<=1073741823/\n.items.length<=1073741823) (hroot:root<ns.length)
 (hall:∀v,v<ns.length->Gr.Reach (Gr.succ ns) root v) (w:World) (h:GAt w w.heap.size A vs ns):
 Calls prog 23 #[.agg #[.slice A ns.length c,.int .i64 root]] w fun e w'=>e=.returned (.tuple #[.int .i64 (depth ns root).1,.bool (depth ns root).2])/\Below w.heap.size w w':=by
 obtain⟨hC,aB,ak⟩:=zkh hr.succ root hroot hall;have HC:=hid hC;have H:=hid h;have aA:=hid (fun W hW=>zfs A c root vs ns hr hl hks hroot W (h.below hW|>.more hW.size));obtain⟨t,ht⟩:=ex (tcomp (Gr.succ ns) ns.length root)
 rw[ht]at aB ak HC;have HT:=hid ht;obtain⟨m,hm⟩:=ex t.sizes.length
 have HM:=hid hm;rw[hm]at ak;have hml:m<=1073741823:=by omega
 have bJ:=fun W=>zb1 m (by omega) W
 have bB:=fun W=>zjt m (by omega) W
 have hrI:(root:Int)<(ns.length:Int):=by omega
 have aQ:=hid aB;have HCZ:=hid ak;clear h hC ht hm aB ak;go_enter func23,ntmps23;go_upto_region 1 with fail;obtain⟨w1,ao⟩:=ex (w.alloc (.cells #[.slice A ns.length c,.int .i64 root] 27))
 (try rw[ao]);have l1:Below w.heap.size w w1:=by rw[<-ao];exact(Below.refl _ _).alloc (Nat.le_refl _) _
 have b1:Blk w1 w.heap.size 27 #[.slice A ns.length c,.int .i64 root]:=by rw[<-ao];exact Blk.new _ _ _
 obtain⟨gb,ah⟩:=ex w.heap.size
 have aK:=hid ah;have L1:=hid l1;(try rw[ah]);rw[ah]at b1;have aT:=hid b1;obtain⟨g0,g1⟩:=cells2 b1;have bE:=hid (aA.out w1 l1);clear ao ah l1 b1;go_wp2_with fail;refine bE.out.mono ?_;rintro e w2 ⟨rC,Az,cz,rfl,h1,h2,h3,h4⟩;rw[HT.out]at h3 h4 ⊢;rw[HM.out]at h4 ⊢;obtain⟨Az',cz',bd,bl⟩:=h4.form;rw[HM.out]at bd;injection bd with e1 _ e2
 subst e1;subst e2;obtain⟨f,P⟩:=ex w2.heap.size
 have aM:gb<f:=by have:=h2.size;have:=aT.out.lt;omega
 have bC:Hid (DepF w2 gb rC f A Az c root vs ns t.inn t.sizes):=hid ⟨aT.out.below h2 aT.out.lt,aM,h3,by have:=h3.lt;omega,by rw[<-P];exact bl,(H.out.below (L1.out.trans (h2.mono (by have:=L1.out.size;omega)))).more (by have:=aK.out;omega)⟩;have bQ:Hid (Below w.heap.size w w2):=hid (L1.out.trans (h2.mono L1.out.size));clear h1 h2 h3 h4 g0 g1 bl;go_upto_region 5 with fail;obtain⟨w4,U⟩:=ex ((w2.alloc (.cells (icells (List.replicate m 0)) 3)).alloc (.cells (Array.replicate m (Value.slice none 0 0)) 38))
 have l4:Below f w2 w4:=by rw[<-U,<-P];exact((Below.refl _ _).alloc (Nat.le_refl _) _).alloc (by simp) _
 have am:w4.heap.size=f+1+1:=by rw[<-U];simp[P]
 have b4:Blk w4 f 3 (icells (List.replicate m 0)):=by rw[<-U,<-P];exact(Blk.new _ _ _).alloc _
 have m4:Blk w4 (f+1) 38 (Array.replicate m (Value.slice none 0 0)):=by
  rw[<-U,<-P];have:=Blk.new (w2.alloc (.cells (icells (List.replicate m 0)) 3)) 38 (Array.replicate m (Value.slice none 0 0));rw[World.size_alloc]at this;exact this
 obtain⟨E,aC⟩:=ex (f+1)
 rw[aC]at m4 am;obtain⟨D,hD⟩:=ex (E+1)
 rw[hD]at am;have g:Hid (gb<f/\f<E/\E<D/\w4.heap.size=D/\w.heap.size=gb):=hid ⟨aM,by omega,by omega,am,aK.out⟩;have aY:=hid (bC.out.below l4);have bA:Hid (Below w.heap.size w w4):=hid (bQ.out.trans (l4.mono (by rw[aK.out];omega)));have bF:=hid b4;have bP:Hid (Mems w4 D E (List.replicate m (.slice none 0 0)) (List.replicate m [])):=hid (Mems.start (by simpa using m4) (by omega) (by omega));rw[aC,U];have bk:=fun v (hv:v<ns.length)=>HC.out.rng v hv
 have aR:=hid bk;clear U P l4 am b4 m4 aC hD aM bk bJ bB;go_upto_region 6 with fail;go_loopw [31] (fun s31 wr=>∃i:Nat,i<=ns.length/\s31=.int .i64 i/\Hid (KB E w4 wr/\∃mv,Mems wr D E mv (memsL t.cn i m))) (fun s31 _=>ns.length-(intOf s31).toNat)
 case atStart=>exact⟨0,by omega,rfl,hid ⟨KB.refl _ _,_,by rw[zl8];exact bP.out⟩⟩
 case round=>
  obtain⟨i,hi,rfl,I⟩:=hrel;by_cases hlt:i<ns.length
  .have N:(i:Int)<(ns.length:Int):=by omega
   obtain⟨Y,mv,C⟩:=I.out;obtain⟨bw,a9⟩:=aR.out i hlt;obtain⟨u,ai⟩:∃u:Nat,t.cn i=(u:Int):=⟨(t.cn i).toNat,by omega⟩
   rw[ai,HM.out]at a9;have aw:u<m:=by omega
   have hccI:(u:Int)<(m:Int):=by omega
   have l:u<mv.length:=by rw[C.len,zch];exact aw
   have y0:wr.cell? ⟨rC,i,none⟩=some (.int .i64 (u:Int)):=by
    have:=((aY.out.below (Y.below (by have:=g.out;omega) (by have:=g.out;omega))).bc).cell i;rw[this,zb4 (by rw[aQ.out];exact hlt),<-zvz,ai]
   have aL:u<(memsL t.cn i m).length:=by rw[zch];exact aw
   obtain⟨Ac,ac,bS,z0,bT⟩:=C.at_ aL;have aa:=C.own u l aL;have o:mv[u]=.slice Ac (memsL t.cn i m)[u].length ac:=by
    have h1:=C.blk.cell u;rw[z0]at h1;simpa[List.getElem?_eq_getElem l]using h1.symm
   rw[zci]at z0 aa o;clear bT bS aL;have ar:=ze1 t.cn i u;obtain⟨L,hL⟩:=ex (members t.cn i u)
   rw[hL]at z0 aa ar o;rw[o]at aa;have F:Hid (memsL t.cn (i+1) m=(memsL t.cn i m).set u (L++[i])):=hid (by rw[zl9 _ _ _ _ ai,hL]);have zf:∀j,wr.frozen? ⟨E,j,none⟩=false:=C.blk.frozen;have bR:=hid aa;have bL:Hid (∃l:u<mv.length,KB E w4 wr/\Mems wr D E mv (memsL t.cn i m)/\mv[u]=.slice Ac L.length ac):=hid ⟨l,Y,C,o⟩;have aE:Hid (D<=wr.heap.size/\L.length+1<=1073741823):=hid ⟨C.hd,by omega⟩;clear Y C bw a9 ai l aa o ar hL;go_upto_region 8 with fail;clear y0;go_wp2_with (at_builtin;go_must (refine zaa _ rfl (.tmp 41) (.tmp 43) 38 3 8 rfl intT D (.slice Ac L.length ac) L rfl (bR.out.alloc _) _ _ 1 [i] rfl (RowAt.lit1 _ _ rfl _ ?_) ?_ ?_ ?_))
   any_goals (first|rfl| (have:=aE.out;omega)| (have:=aE.out;simp;omega)| (rw[World.size_alloc];have:=aE.out;omega))
   intro v' w3 af hg ay;obtain⟨l,Y,C,o⟩:=bL.out;have ag:=C.alloc (.cells #[.int .i64 i] 3);rw[<-o]at hg ay;have aZ:=ag.grown l af hg (by rw[World.size_alloc];exact ay);have aW:=ag.grownKB (Y.alloc _) g.out.2.2.2.1 l v' hg;have aD:Blk w3 E 38 mv.toArray:=ag.blk.grown hg (fun e=>by have:=((ag.own u l (by rw[zch];omega)).lt E e.symm).1;have:=g.out;omega);have bO:w3.cell? ⟨E,u,none⟩=some mv[u]:=by rw[aD.cell];simp[List.getElem?_eq_getElem l]
   rw[o]at bO;have pf3:∀j,w3.frozen? ⟨E,j,none⟩=false:=aD.frozen;obtain⟨g3,aq,a1,_⟩:=af.shape (by simp);obtain⟨n3,ba⟩:=ex ((L++[i]).length)
   rw[ba]at a1;subst a1;have s:Hid (KB E w4 (w3.setCell ⟨E,u,none⟩ (.slice (some ⟨g3,0,none⟩) n3 aq))/\∃mv,Mems (w3.setCell ⟨E,u,none⟩ (.slice (some ⟨g3,0,none⟩) n3 aq)) D E mv (memsL t.cn (i+1) m)):=hid ⟨aW,_,by rw[F.out];exact aZ⟩;clear o Y C ag af hg ay aZ aW aD ba z0 zf l;go_wp2;go_roundw
   case rel=>exact⟨i+1,by omega,by go_num,s⟩
   case measure=>simp[intOf];omega
  .have N:¬((i:Int)<(ns.length:Int)):=by omega
   have bp:i=ns.length:=by omega
   obtain⟨Y,mv,C⟩:=I.out;rw[bp]at C;obtain⟨S,bv⟩:∃S,S=wr:=⟨_,rfl⟩
   subst bv;have bi:Hid (Mems S D E mv (memsL t.cn ns.length m)):=hid C;have aj:Hid (DepF S gb rC f A Az c root vs ns t.inn t.sizes):=hid (aY.out.below (Y.below (by have:=g.out;omega) (by have:=g.out;omega)));have F:Hid (Below w.heap.size w S/\D<=S.heap.size):=hid ⟨bA.out.trans (Y.below (by have:=g.out;omega) (by have:=g.out;omega)),C.hd⟩;have bu:Hid (Blk S f 3 (icells (List.replicate m 0))):=hid (Y.blk bF.out (by have:=g.out;omega));clear Y C I bp hi hlt;go_upto_region 11 with fail;clear N;go_loopw [6,49] (fun s6 s49 wr=>∃(k:Nat) (p:List Nat×Bool),k<=m/\s49=.int .i64 k/\s6=.bool p.2/\Hid (p=(List.range k).foldl (dcomp (Gr.succ ns) t.cn ns.length t.sizes) (List.replicate m 0,true)/\KB f S wr/\Blk wr f 3 (icells p.1))) (fun _ s49 _=>m-(intOf s49).toNat)
   case atStart=>exact⟨0,(List.replicate m 0,true),by omega,rfl,rfl,hid ⟨rfl,KB.refl _ _,bu.out⟩⟩
   case round=>
    obtain⟨k,p,Y,rfl,rfl,I⟩:=hrel;obtain⟨wq,bt⟩:∃wq,wq=wr:=⟨_,rfl⟩
    subst bt;by_cases hlt:k<m
    .have N:(k:Int)<(m:Int):=by omega
     have C:=bi.out.kb I.out.2.1 (by have:=g.out;omega) (by have:=g.out;omega);obtain⟨Ak,capk,l,z0,bD⟩:=C.at_ (c:=k) (by rw[zch];exact hlt);clear bD;rw[zci]at z0 l;have bo:Hid (∀W,KB f S W->RowAt intL W W.heap.size Ak (members t.cn ns.length k)):=hid (fun W hW=>by
      have:=(bi.out.kb hW (by have:=g.out;omega) (by have:=g.out;omega)).row (c:=k) (by rw[zch];exact hlt) l;rwa[zci]at this)
     clear l;have bx:=ze1 t.cn ns.length k;have a3:Hid (∀x∈members t.cn ns.length k,x<ns.length):=hid (zma t.cn ns.length k);have a4:Hid (dcomp (Gr.succ ns) t.cn ns.length t.sizes p k=((((members t.cn ns.length k).foldl (fun p i=>(Gr.succ ns i).foldl (dstep t.cn k) p) p).1.set k (((members t.cn ns.length k).foldl (fun p i=>(Gr.succ ns i).foldl (dstep t.cn k) p) p).1.getD k 0+t.sizes.getD k 0)),((members t.cn ns.length k).foldl (fun p i=>(Gr.succ ns i).foldl (dstep t.cn k) p) p).2)):=hid rfl;obtain⟨Lk,bm⟩:=ex (members t.cn ns.length k)
     rw[bm]at z0 bo bx a3 a4;have aN:∀j,t.sizes.getD j 0<=ns.length:=fun j=>by
      by_cases hj:j<t.sizes.length
      .rw[HC.out.cnt j hj];exact Nat.le_trans List.countP_le_length (by simp)
      .simp[List.getD_eq_getElem?_getD,List.getElem?_eq_none (Nat.le_of_not_lt hj)]
     have bs:=hid aN;have al:p.1.length=m:=by rw[I.out.1,zf8];simp
     have Q:Sml (k*ns.length) p:=by
      rw[I.out.1];refine Sml.comps (fun j=>?_) aN k;simp[List.getD_eq_getElem?_getD,List.getElem?_replicate];split<;>simp
     obtain⟨M,aV⟩:=ex (k*ns.length)
     rw[aV]at Q;have aG:Hid (M<=1152921504606846976):=hid (by rw[<-aV];exact Nat.le_trans (Nat.mul_le_mul (show k<=1073741824 by omega) (show ns.length<=1073741824 by omega)) (by decide));have a6:=hid al;have bf:=hid Q;clear C bm aN al Q aV;go_upto_region 14 with fail;clear z0;go_loopw [6,57] (fun s6 s57 wr=>∃(j:Nat) (q:List Nat×Bool),j<=Lk.length/\s57=.int .i64 j/\s6=.bool q.2/\Hid (q=(Lk.take j).foldl (fun p i=>(Gr.succ ns i).foldl (dstep t.cn k) p) p/\KB f S wr/\Blk wr f 3 (icells q.1))) (fun _ s57 _=>Lk.length-(intOf s57).toNat)
     case atStart=>exact⟨0,p,by omega,rfl,rfl,hid ⟨rfl,I.out.2.1,I.out.2.2⟩⟩
     case round=>
      obtain⟨j,q,hj,rfl,rfl,J⟩:=hrel;obtain⟨V,bN⟩:∃V,V=wr:=⟨_,rfl⟩
      subst bN;by_cases hjl:j<Lk.length
      .have aX:(j:Int)<(Lk.length:Int):=by omega
       obtain⟨i,hi⟩:=ex (Lk[j])
       have aJ:i<ns.length:=by rw[<-hi];exact a3.out _ (List.getElem_mem hjl)
       obtain⟨adk,rfl,hadk,y0⟩:=zae (bo.out _ J.out.2.1) hjl;rw[hi]at y0;have z:=aj.out.below (J.out.2.1.below (B:=f) (Nat.le_refl _) (by have:=F.out;have:=g.out;omega));have g0:V.cell? ⟨gb,0,none⟩=some (.slice A ns.length c):=z.bg.cell 0;obtain⟨ad,ks,is,rfl,hN⟩:=z.at_.node aJ;obtain⟨X,kn,kc⟩:=ks;obtain⟨Z,bH,ic⟩:=is;have aP:ns[i]∈ns:=List.getElem_mem aJ;obtain⟨a7,a5⟩:=hks _ aP;have aF:Gr.succ ns i=ns[i].keys++ns[i].items:=by unfold Gr.succ;rw[List.getElem?_eq_getElem aJ]
       have aS:Hid (∀x∈ns[i].keys++ns[i].items,x<ns.length):=hid (hr _ aP);obtain⟨n,hn⟩:=ex (ns[i])
       rw[hn]at hN a7 a5 aF aS;obtain rfl:kn=n.keys.length:=hN.kn;obtain rfl:bH=n.items.length:=hN.inn;have x3:=hN.c3;have x4:=hN.c4;have br:Hid ((Lk.take (j+1)).foldl (fun p i=>(Gr.succ ns i).foldl (dstep t.cn k) p) p=(n.keys++n.items).foldl (dstep t.cn k) q):=hid (by
        rw[zaj _ _ hjl,List.foldl_append,<-J.out.1,hi,List.foldl_cons,List.foldl_nil,aF])
       have bn:Hid (RowAt intL V f X n.keys/\RowAt intL V f Z n.items):=hid ⟨hN.keys,hN.items⟩;have hinI:(i:Int)<(ns.length:Int):=by omega
       clear z hN aP aF hn hi;go_upto_region 16 with fail;go_region_held3 (fun w'=>w'.cell? ⟨gb,0,none⟩=some (.slice (some ad) ns.length c)/\w'.cell? {block:=(ad.add (i*5)).block,off:=(ad.add (i*5)).off+3}=some (.slice X n.keys.length kc)/\w'.cell? {block:=(ad.add (i*5)).block,off:=(ad.add (i*5)).off+4}=some (.slice Z n.items.length ic)) (go_keep) (fail);go_upto_region 17 with fail;clear x3 x4 g0 y0;obtain⟨K,ab⟩:=ex ((V.alloc (.cells #[.slice X n.keys.length kc,.slice Z n.items.length ic] 38)).drew)
       obtain⟨lb,aI⟩:=ex V.heap.size
       have b5:Blk K lb 38 #[.slice X n.keys.length kc,.slice Z n.items.length ic]:=by rw[<-ab,<-aI];exact(Blk.new _ _ _).drew
       have k5:KB f V K:=by rw[<-ab];exact((KB.refl _ _).alloc _).drewN 1
       have az:Hid (f<lb/\f<=V.heap.size):=hid ⟨by have:=J.out.2.2.lt;omega,Nat.le_of_lt J.out.2.2.lt⟩;have ap:Hid (KB f S K/\Blk K f 3 (icells q.1)/\Blk K lb 38 #[.slice X n.keys.length kc,.slice Z n.items.length ic]):=hid ⟨J.out.2.1.trans k5,by rw[<-ab];exact(J.out.2.2.alloc _).drew,b5⟩;have au:Hid (RowAt intL K f X n.keys/\RowAt intL K f Z n.items):=hid ⟨bn.out.1.below (k5.below (Nat.le_refl _) az.out.2),bn.out.2.below (k5.below (Nat.le_refl _) az.out.2)⟩;rw[ab,aI];clear ab b5 k5 aI;go_loopw [6,75] (fun s6 s75 wr=>∃(r:Nat) (q2:List Nat×Bool),r<=2/\s75=.int .i64 r/\s6=.bool q2.2/\Hid (q2=(if r=0 then[]else if r=1 then n.keys else n.keys++n.items).foldl (dstep t.cn k) q/\KB f K wr/\Blk wr f 3 (icells q2.1)/\Blk wr lb 38 #[.slice X n.keys.length kc,.slice Z n.items.length ic])) (fun _ s75 _=>2-(intOf s75).toNat)
       case atStart=>exact⟨0,q,by omega,rfl,rfl,hid ⟨rfl,KB.refl _ _,ap.out.2⟩⟩
       case round=>
        obtain⟨r,q2,hr2,rfl,rfl,HR⟩:=hrel;obtain⟨wx,bM⟩:∃wx,wx=wr:=⟨_,rfl⟩
        subst bM;by_cases hrl:r<2
        .have a8:(r:Int)<2:=by omega
         obtain⟨Ax,G,cx,e1,HX⟩:∃Ax G cx,wx.cell? ⟨lb,r,none⟩=some (.slice Ax (G:List Nat).length cx)/\Hid (RowAt intL K f Ax G/\(if r+1=0 then[]else if r+1=1 then n.keys else n.keys++n.items)=(if r=0 then[]else if r=1 then n.keys else n.keys++n.items)++G/\(∀x∈G,x<ns.length)/\G.length<=1073741823):=by
          obtain rfl|rfl:r=0\/r=1:=by omega
          .exact⟨X,n.keys,kc,HR.out.2.2.2.cell 0,hid ⟨au.out.1,by simp,fun x hx=>aS.out x (List.mem_append_left _ hx),a7⟩⟩
          .exact⟨Z,n.items,ic,HR.out.2.2.2.cell 1,hid ⟨au.out.2,by simp,fun x hx=>aS.out x (List.mem_append_right _ hx),a5⟩⟩
         have hxl:=HX.out.2.2.2;go_upto_region 20 with fail;clear e1;go_loopw [6,81] (fun s6 s81 wr=>∃(y:Nat) (q3:List Nat×Bool),y<=G.length/\s81=.int .i64 y/\s6=.bool q3.2/\Hid (q3=(G.take y).foldl (dstep t.cn k) q2/\KB f K wr/\Blk wr f 3 (icells q3.1)/\Blk wr lb 38 #[.slice X n.keys.length kc,.slice Z n.items.length ic])) (fun _ s81 _=>G.length-(intOf s81).toNat)
         case atStart=>exact⟨0,q2,by omega,rfl,rfl,hid ⟨rfl,HR.out.2⟩⟩
         case round=>
          obtain⟨y,q3,hy,rfl,rfl,R⟩:=hrel;by_cases hyl:y<G.length
          .have a2:(y:Int)<(G.length:Int):=by omega
           obtain⟨x,hx⟩:=ex (G[y])
           have bj:x<ns.length:=by rw[<-hx];exact HX.out.2.2.1 _ (List.getElem_mem hyl)
           have O:Below f K wr:=R.out.2.1.below (Nat.le_refl _) (Nat.le_of_lt ap.out.2.1.lt);obtain⟨adx,rfl,hadx,y0⟩:=zae (HX.out.1.below O) hyl;rw[hx]at y0;obtain⟨an,T⟩:=aR.out x bj;obtain⟨d,hd⟩:∃d:Nat,t.cn x=(d:Int):=⟨(t.cn x).toNat,by omega⟩
           rw[hd,HM.out]at T;have bz:(d:Int)<(m:Int):=by omega
           have aO:=(aj.out.below (ap.out.1.below (B:=f) (Nat.le_refl _) (by have:=F.out;have:=g.out;omega))).below O;have r0:wr.cell? ⟨rC,x,none⟩=some (.int .i64 (d:Int)):=by
            rw[aO.bc.cell,zb4 (by rw[aQ.out];exact bj),<-zvz,hd]
           have hxnI:(x:Int)<(ns.length:Int):=by omega
           have bh:Hid ((G.take (y+1)).foldl (dstep t.cn k) q2=dstep t.cn k q3 x):=hid (by rw[zaj _ _ hyl,List.foldl_append,<-R.out.1,hx];rfl);have hyb:y<=1073741823:=by omega
           by_cases hdk:d=k
           .have be:((k:Int)==(k:Int))=true:=by simp
            rw[hdk]at r0;have s:Hid ((q3.1,false)=(G.take (y+1)).foldl (dstep t.cn k) q2/\KB f K wr/\Blk wr f 3 (icells q3.1)/\Blk wr lb 38 #[.slice X n.keys.length kc,.slice Z n.items.length ic]):=hid ⟨by rw[bh.out];unfold dstep;rw[if_pos (by rw[hd,hdk])],R.out.2⟩;clear aO O hd an T hx hdk;go_wp2;go_roundw
            case rel=>exact⟨y+1,(q3.1,false),by omega,by go_num,rfl,s⟩
            case measure=>simp[intOf];omega
           .have be:((d:Int)==(k:Int))=false:=by simp;omega
            have bq:¬(d:Int)=(k:Int):=by omega
            obtain⟨a,ha⟩:=ex (q3.1.getD k 0)
            obtain⟨b,hb⟩:=ex (q3.1.getD d 0)
            have bU:q3.1.length=m:=by rw[R.out.1,ze2,HR.out.1,ze2,J.out.1,zdw];exact a6.out
            have ae:Sml M q3:=by rw[R.out.1];refine Sml.fold _ ?_;rw[HR.out.1];refine Sml.fold _ ?_;rw[J.out.1];exact Sml.foldM _ _ bf.out
            have bb:a<=1152921504606846976:=by have:=ae k;have:=aG.out;omega
            have bG:b<=1152921504606846976:=by have:=ae d;have:=aG.out;omega
            have z1:wr.cell? ⟨f,k,none⟩=some (.int .i64 (a:Int)):=by rw[R.out.2.2.1.cell,zad (by omega),ha]
            have z2:wr.cell? ⟨f,d,none⟩=some (.int .i64 (b:Int)):=by rw[R.out.2.2.1.cell,zad (by omega),hb]
            have zf:∀j,wr.frozen? ⟨f,j,none⟩=false:=R.out.2.2.1.frozen;have s:∀v:Nat,v=max a b->Hid ((q3.1.set k v,q3.2)=(G.take (y+1)).foldl (dstep t.cn k) q2/\KB f K (wr.setCell ⟨f,k,none⟩ (.int .i64 (v:Int))).drew/\Blk (wr.setCell ⟨f,k,none⟩ (.int .i64 (v:Int))).drew f 3 (icells (q3.1.set k v))/\Blk (wr.setCell ⟨f,k,none⟩ (.int .i64 (v:Int))).drew lb 38 #[.slice X n.keys.length kc,.slice Z n.items.length ic]):=fun v hv=>hid ⟨by rw[bh.out];unfold dstep;rw[if_neg (by rw[hd];exact bq),hd,ha,show((d:Int)).toNat=d from by omega,hb,hv],(R.out.2.1.set _ _).drewN 1,by rw[<-zav];exact(R.out.2.2.1.set_ k _).drew,(R.out.2.2.2.far (by have:=az.out;simp;omega) _).drew⟩
            have aU:=hid s;clear aO O hd an T hx hdk s bU ae ha hb;go_upto_region 24 with fail;by_cases hmx:a<b
            all_goals go_region
            all_goals go_wp2_with fail
            all_goals
             go_roundw
             case rel=>first| (rw[show max (a:Int) (b:Int)=((max a b:Nat):Int)from by omega];exact⟨y+1,(q3.1.set k (max a b),q3.2),by omega,by go_num,rfl,aU.out (max a b) rfl⟩)|exact⟨y+1,(q3.1.set k a,q3.2),by omega,by go_num,rfl,aU.out a (by omega)⟩|exact⟨y+1,(q3.1.set k b,q3.2),by omega,by go_num,rfl,aU.out b (by omega)⟩
             case measure=>simp[intOf];omega
          .have a2:¬(y:Int)<(G.length:Int):=by omega
           have s:Hid (q3=(if r+1=0 then[]else if r+1=1 then n.keys else n.keys++n.items).foldl (dstep t.cn k) q/\KB f K wr/\Blk wr f 3 (icells q3.1)/\Blk wr lb 38 #[.slice X n.keys.length kc,.slice Z n.items.length ic]):=hid ⟨by
            rw[HX.out.2.1,List.foldl_append,<-HR.out.1];have:=R.out.1;rwa[show y=G.length from by omega,List.take_length]at this,R.out.2⟩
           go_wp2;go_roundw
           case rel=>exact⟨r+1,q3,by omega,by go_num,rfl,s⟩
           case measure=>simp[intOf];omega
        .have a8:¬(r:Int)<2:=by omega
         have s:Hid (q2=(Lk.take (j+1)).foldl (fun p i=>(Gr.succ ns i).foldl (dstep t.cn k) p) p/\KB f S wx/\Blk wx f 3 (icells q2.1)):=hid ⟨by
          have:=HR.out.1;rw[show r=2 from by omega]at this;rw[br.out];exact this,ap.out.1.trans HR.out.2.1,HR.out.2.2.1⟩
         go_wp2;go_roundw
         case rel=>exact⟨j+1,q2,by omega,by go_num,rfl,s⟩
         case measure=>simp[intOf];omega
      .have aX:¬(j:Int)<(Lk.length:Int):=by omega
       obtain⟨a,ha⟩:=ex (q.1.getD k 0)
       obtain⟨b,hb⟩:=ex (t.sizes.getD k 0)
       have hq:q=Lk.foldl (fun p i=>(Gr.succ ns i).foldl (dstep t.cn k) p) p:=by
        have:=J.out.1;rwa[show j=Lk.length from by omega,List.take_length]at this
       have bK:q.1.length=m:=by rw[hq,zdw];exact a6.out
       have bb:a<=1152921504606846976:=by
        have h1:Sml M q:=by rw[hq];exact Sml.foldM _ _ bf.out
        have:=h1 k;have:=aG.out;omega
       have bG:b<=1073741823:=by have:=bs.out k;omega
       have z:=aj.out.below (J.out.2.1.below (B:=f) (Nat.le_refl _) (by have:=F.out;have:=g.out;omega));have ax:k<t.sizes.length:=by rw[HM.out];exact hlt
       have a0:t.sizes[k]=b:=by rw[<-hb];simp[List.getD_eq_getElem?_getD,List.getElem?_eq_getElem ax]
       obtain⟨adz,rfl,hadz,z2⟩:=zae z.rz ax;rw[a0]at z2;have z1:V.cell? ⟨f,k,none⟩=some (.int .i64 (a:Int)):=by rw[J.out.2.2.cell,zad (by omega),ha]
       have zf:∀j,V.frozen? ⟨f,j,none⟩=false:=J.out.2.2.frozen;have s:Hid ((q.1.set k (a+b),q.2)=(List.range (k+1)).foldl (dcomp (Gr.succ ns) t.cn ns.length t.sizes) (List.replicate m 0,true)/\KB f S (V.setCell ⟨f,k,none⟩ (.int .i64 ((a:Int)+(b:Int)))).drew/\Blk (V.setCell ⟨f,k,none⟩ (.int .i64 ((a:Int)+(b:Int)))).drew f 3 (icells (q.1.set k (a+b)))):=hid ⟨by
        rw[List.range_succ,List.foldl_append,<-I.out.1,List.foldl_cons,List.foldl_nil,a4.out,<-hq,ha,hb],(J.out.2.1.set _ _).drewN 1,by
        rw[<-zav,show(((a+b:Nat)):Int)=(a:Int)+(b:Int)from by omega];exact(J.out.2.2.set_ k _).drew⟩
       clear ha hb hq bK z a0 ax;go_upto_region 28 with fail;go_region
       all_goals go_wp2_with fail
       all_goals
        go_roundw
        case rel=>exact⟨k+1,(q.1.set k (a+b),q.2),by omega,by go_num,rfl,s⟩
        case measure=>simp[intOf];omega
    .have N:¬(k:Int)<(m:Int):=by omega
     have aH:k=m:=by omega
     have z:=aj.out.below (I.out.2.1.below (B:=f) (Nat.le_refl _) (by have:=F.out;have:=g.out;omega));obtain⟨an,T⟩:=aR.out root hroot;obtain⟨d,hd⟩:∃d:Nat,t.cn root=(d:Int):=⟨(t.cn root).toNat,by omega⟩
     rw[hd,HM.out]at T;have bz:(d:Int)<(m:Int):=by omega
     have r0:wq.cell? ⟨rC,root,none⟩=some (.int .i64 (d:Int)):=by
      rw[z.bc.cell,zb4 (by rw[aQ.out];exact hroot),<-zvz,hd]
     have g1:wq.cell? ⟨gb,1,none⟩=some (.int .i64 root):=z.bg.cell 1;obtain⟨a,ha⟩:=ex (p.1.getD d 0)
     have al:p.1.length=m:=by rw[I.out.1,zf8];simp
     have z0:wq.cell? ⟨f,d,none⟩=some (.int .i64 (a:Int)):=by rw[I.out.2.2.cell,zad (by omega),ha]
     have Q:Sml (m*ns.length) p:=by
      rw[I.out.1,<-aH];refine Sml.comps (fun j=>?_) (fun j=>?_) k
      .simp[List.getD_eq_getElem?_getD,List.getElem?_replicate];split<;>simp
      .by_cases hj:j<t.sizes.length
       .rw[HC.out.cnt j hj];exact Nat.le_trans List.countP_le_length (by simp)
       .simp[List.getD_eq_getElem?_getD,List.getElem?_eq_none (Nat.le_of_not_lt hj)]
     have bb:a<=1152921504606846976:=by
      have:=Q d;have h2:m*ns.length<=1152921504606846976:=Nat.le_trans (Nat.mul_le_mul (show m<=1073741824 by omega) (show ns.length<=1073741824 by omega)) (by decide);omega
     have av:Hid ((depth ns root).1=(a:Int)-1/\(depth ns root).2=p.2):=hid (by
      have hp:p=dall (Gr.succ ns) t.cn ns.length t.sizes:=by rw[I.out.1,aH];unfold dall;rw[HM.out]
      unfold depth;simp only[HT.out];rw[<-hp,hd,<-ha];exact⟨rfl,rfl⟩)
     have bI:Hid (Below w.heap.size w wq):=hid (F.out.1.trans (I.out.2.1.below (by have:=g.out;omega) (by have:=g.out;have:=F.out;omega)));clear aH z an T hd ha al Q;go_wp2;go_ret2;rw[av.out.1,av.out.2];exact⟨rfl,bI.out⟩
namespace Gr
structure Ni where
 kind:Int
 text:Str
 ord:Bool
 keys:List Int
 items:List Int
def Ni.nd (x:Ni):Nd:=⟨x.kind,x.text,x.ord,x.keys.map Int.toNat,x.items.map Int.toNat⟩
def inR (n:Nat) (x:Int):Bool:=decide (0<=x) && decide (x<(n:Int))
def rng (n:Nat) (x:Ni):Bool:=(x.keys++x.items).all (inR n)
def indB (is:List Ni) (root:Int):Bool:=inR is.length root && is.all (rng is.length)
end Gr
open Go.RowKit
theorem zsy (l:List Int) (h0:∀x∈l,0<=x):intL.all (l.map Int.toNat)=intI.all l:=by
 induction l with
 |nil=>rfl
 |cons x l ih=>
  have c:intI.all (x::l)=intI.enc x++intI.all l:=rfl;have a:intL.all (x.toNat::l.map Int.toNat)=intL.enc x.toNat++intL.all (l.map Int.toNat):=rfl;have hx:=h0 x (.head _);rw[List.map_cons,c,a,ih (fun y b=>h0 y (.tail _ b))];show[Value.int .i64 ((x.toNat:Nat):Int)]++_=[Value.int .i64 x]++_;rw[show((x.toNat:Nat):Int)=x from by omega]
theorem zkx {w:World} {B:Nat} {A:Option Addr} {l:List Int} (h:RowAt intI w B A l) (h0:∀x∈l,0<=x):RowAt intL w B A (l.map Int.toNat):=by
 unfold RowAt at h ⊢;rw[zsy l h0,List.length_map];exact h
theorem ze3 {w:World} {B:Nat} {A:Option Addr} {l:List Int} {k:Nat} (h:RowAt intI w B A l) (hk:k<l.length):∃ad,A=some ad/\ad.block<B/\w.cell? (ad.add k)=some (.int .i64 l[k]):=by
 obtain⟨ad,a,b,c,_⟩:=h.get hk;refine⟨ad,a,b,?_⟩;have:=c (.int .i64 l[k]) rfl;rwa[show k*intI.sz=k from Nat.mul_one k]at this
structure IAt (w:World) (B:Nat) (A:Option Addr) (vs:List NV) (ns:List Gr.Ni):Prop where
 row:RowAt nodeL w B A vs
 len:vs.length=ns.length
 kind:∀j (h:j<vs.length) (h2:j<ns.length),vs[j].kind=ns[j].kind/\vs[j].text=ns[j].text/\vs[j].ord=ns[j].ord
 nums:∀j (h:j<vs.length) (h2:j<ns.length),RowAt intI w B vs[j].k.a ns[j].keys/\vs[j].k.n=ns[j].keys.length/\RowAt intI w B vs[j].i.a ns[j].items/\vs[j].i.n=ns[j].items.length
theorem IAt.below {w w':World} {B:Nat} {A:Option Addr} {vs:List NV} {ns:List Gr.Ni} (h:IAt w B A vs ns) (hb:Below B w w'):IAt w' B A vs ns:=
 ⟨h.row.below hb,h.len,h.kind,fun j e f=>let⟨a,b,c,d⟩:=h.nums j e f;⟨a.below hb,b,c.below hb,d⟩⟩
theorem IAt.more {w:World} {B B':Nat} {A:Option Addr} {vs:List NV} {ns:List Gr.Ni} (h:IAt w B A vs ns) (hB:B<=B'):IAt w B' A vs ns:=
 ⟨h.row.more hB,h.len,h.kind,fun j e f=>let⟨a,b,c,d⟩:=h.nums j e f;⟨a.more hB,b,c.more hB,d⟩⟩
theorem IAt.toG {w:World} {B:Nat} {A:Option Addr} {vs:List NV} {ns:List Gr.Ni} (h:IAt w B A vs ns) (h0:∀x∈ns,∀y∈x.keys++x.items,0<=y):GAt w B A vs (ns.map Gr.Ni.nd):=by
 refine⟨h.row,by simp[h.len],fun j f e=>?_,fun j f e=>?_⟩
 .rw[List.length_map]at e;rw[List.getElem_map];exact h.kind j f e
 .rw[List.length_map]at e;rw[List.getElem_map];obtain⟨a,b,c,d⟩:=h.nums j f e;have i:=h0 _ (List.getElem_mem e);exact⟨zkx a (fun y g=>i y (List.mem_append_left _ g)),by rw[b];simp[Gr.Ni.nd],zkx c (fun y g=>i y (List.mem_append_right _ g)),by rw[d];simp[Gr.Ni.nd]⟩
theorem zbl {is:List Gr.Ni} (h:is.all (rng is.length)=true):(∀x∈is,∀y∈x.keys++x.items,0<=y)/\Refs (is.map Gr.Ni.nd):=by
 have d:∀x∈is,∀y∈x.keys++x.items,0<=y/\y<(is.length:Int):=by
  intro x a y b;have:=List.all_eq_true.1 (List.all_eq_true.1 h x a) y b;simpa[inR]using this
 refine⟨fun x a y b=>(d x a y b).1,fun x a r c=>?_⟩;obtain⟨y,b,rfl⟩:=List.mem_map.1 a;rw[List.length_map];rw[Gr.Ni.nd,<-List.map_append]at c;obtain⟨z,e,rfl⟩:=List.mem_map.1 c;have:=d y b z e;omega
theorem IAt.node {w:World} {B:Nat} {A:Option Addr} {vs:List NV} {ns:List Gr.Ni} (h:IAt w B A vs ns) {j:Nat} (hj:j<ns.length):∃(ad:Addr) (k i:SV),A=some ad/\ad.block<B/\w.cell? (ad.add (j*5))=some (.int .i64 ns[j].kind)/\w.cell? {block:=(ad.add (j*5)).block,off:=(ad.add (j*5)).off+1}=some (.string ⟨ns[j].text.toArray⟩)/\w.cell? {block:=(ad.add (j*5)).block,off:=(ad.add (j*5)).off+2}=some (.bool ns[j].ord)/\
 w.cell? {block:=(ad.add (j*5)).block,off:=(ad.add (j*5)).off+3}=some (.slice k.a k.n k.c)/\w.cell? {block:=(ad.add (j*5)).block,off:=(ad.add (j*5)).off+4}=some (.slice i.a i.n i.c)/\RowAt intI w B k.a ns[j].keys/\k.n=ns[j].keys.length/\RowAt intI w B i.a ns[j].items/\i.n=ns[j].items.length:=by
 have b:j<vs.length:=by rw[h.len];exact hj
 obtain⟨ad,r,l,d,e,f,p,u⟩:=zn2 h.row b;obtain⟨g,o,q⟩:=h.kind j b hj;obtain⟨v,m,s,t⟩:=h.nums j b hj;rw[g]at d;rw[o]at e;rw[q]at f;exact⟨ad,vs[j].k,vs[j].i,r,l,d,e,f,p,u,v,m,s,t⟩
theorem zb5 {α:Type} (f:α->Bool) (l:List α) (k:Nat) (h:k<l.length):(l.take (k+1)).all f=((l.take k).all f && f l[k]):=by
 rw[List.take_succ_eq_append_getElem h,List.all_append];simp
theorem ze4 (A:Option Addr) (c:Nat) (root:Int) (vs:List NV) (ns:List Gr.Ni) (hl:ns.length<=1073741823) (hks:∀n∈ns,n.keys.length<=1073741823/\n.items.length<=1073741823) (w:World) (h:IAt w w.heap.size A vs ns):
 Calls prog 24 #[.agg #[.slice A ns.length c,.int .i64 root]] w fun e w'=>e=.returned (.bool (indB ns root))/\Below w.heap.size w w':=by
 have H:=hid h;obtain⟨C,a⟩:=ex (inR ns.length root)
 have s:=hid a;unfold inR at a;clear h;go_enter func24,ntmps24;go_upto_region 1 with fail;go_cut [3] (fun s3 wx=>s3=.bool C/\∃w1,w1=wx/\w1=w.alloc (.cells #[.slice A ns.length c,.int .i64 root] 27))
 case first=>
  by_cases h1:0<=root
  .by_cases h2:root<(ns.length:Int)
   .obtain rfl:C=true:=by rw[<-a];simp[h1,h2]
    clear a s;go_wp2;go_meet;exact⟨rfl,_,rfl,rfl⟩
   .obtain rfl:C=false:=by rw[<-a];simp[h2]
    clear a s;go_wp2;go_meet;exact⟨rfl,_,rfl,rfl⟩
  .obtain rfl:C=false:=by rw[<-a];simp[h1]
   clear a s;go_wp2;go_meet;exact⟨rfl,_,rfl,rfl⟩
 case rest=>
  obtain⟨rfl,w1,rfl,E⟩:=hcut;have X:Below w.heap.size w w1:=by rw[E];exact(Below.refl _ _).alloc (Nat.le_refl _) _
  have Z:Blk w1 w.heap.size 27 #[.slice A ns.length c,.int .i64 root]:=by rw[E];exact Blk.new _ _ _
  have V:w1.cell? ⟨w.heap.size,0,none⟩=some (.slice A ns.length c):=Z.cell 0;obtain⟨G,i⟩:=ex w.heap.size
  have HGB:=hid i;have L1:=hid X;have t:=hid Z;have H1:=hid (H.out.below X);rw[i]at V t H1;(try rw[i]);have k:Hid (G<w1.heap.size):=hid t.out.lt;clear E X Z i a;go_upto_region 3 with fail;clear V;go_loopw [3,24] (fun s3 s24 wr=>∃(j:Nat) (b:Bool),j<=ns.length/\s24=.int .i64 j/\s3=.bool b/\Hid (b=(C && (ns.take j).all (rng ns.length))/\Below w1.heap.size w1 wr)) (fun _ s24 _=>ns.length-(intOf s24).toNat)
  case atStart=>exact⟨0,C,by omega,rfl,rfl,hid ⟨by simp,Below.refl _ _⟩⟩
  case round=>
   obtain⟨j,b,hj,rfl,rfl,u⟩:=hrel;obtain⟨f,aa⟩:∃f,f=wr:=⟨_,rfl⟩
   subst aa;by_cases hlt:j<ns.length
   .have N:(j:Int)<(ns.length:Int):=by omega
    obtain⟨ad,ks,is,rfl,T,c0,c1,c2,c3,c4,r1,r2,r3,r4⟩:=(H1.out.below (u.out.2.mono (by have:=k.out;omega))).node hlt;obtain⟨F,kn,K⟩:=ks;obtain⟨D,Y,J⟩:=is;have P:ns[j]∈ns:=List.getElem_mem hlt;obtain⟨M,W⟩:=hks _ P;have O:Hid ((ns.take (j+1)).all (rng ns.length)=((ns.take j).all (rng ns.length) && (ns[j].keys++ns[j].items).all (inR ns.length))):=hid (by rw[zb5 _ _ _ hlt];rfl);obtain⟨n,hn⟩:=ex (ns[j])
    rw[hn]at c0 c1 c2 r1 r2 r3 r4 M W O;obtain rfl:kn=n.keys.length:=r2;obtain rfl:Y=n.items.length:=r4;have V:f.cell? ⟨G,0,none⟩=some (.slice (some ad) ns.length c):=(t.out.below u.out.2 k.out).cell 0;have B:=hid (And.intro r1 r3);have l:Hid (G<f.heap.size/\w1.heap.size<=f.heap.size):=hid ⟨by have:=u.out.2.size;have:=k.out;omega,u.out.2.size⟩;clear r1 r3 P hn T;go_upto_region 5 with fail;obtain⟨I,m⟩:=ex (f.alloc (.cells #[.int .i64 n.kind,.string ⟨n.text.toArray⟩,.bool n.ord,.slice F n.keys.length K,.slice D n.items.length J] 40))
    have b5:Blk I f.heap.size 40 #[.int .i64 n.kind,.string ⟨n.text.toArray⟩,.bool n.ord,.slice F n.keys.length K,.slice D n.items.length J]:=by rw[<-m];exact Blk.new _ _ _
    have l5:Below f.heap.size f I:=by rw[<-m];exact(Below.refl _ _).alloc (Nat.le_refl _) _
    have s3:I.cell? ⟨f.heap.size,3,none⟩=some (.slice F n.keys.length K):=b5.cell 3;have s4:I.cell? ⟨f.heap.size,4,none⟩=some (.slice D n.items.length J):=b5.cell 4;(try rw[m]);have L5:=hid l5;clear m b5 l5 c0 c1 c2 c3 c4 V;go_upto_region 6 with fail;obtain⟨v,q⟩:=ex (I.alloc (.cells #[.slice F n.keys.length K,.slice D n.items.length J] 38))
    have b6:Blk v I.heap.size 38 #[.slice F n.keys.length K,.slice D n.items.length J]:=by rw[<-q];exact Blk.new _ _ _
    have S:Below f.heap.size f v:=by rw[<-q];exact L5.out.alloc L5.out.size _
    (try rw[q]);have L:=hid b6;have V:v.cell? ⟨G,0,none⟩=some (.slice (some ad) ns.length c):=((t.out.below u.out.2 k.out).below S l.out.1).cell 0;have R:Hid (RowAt intI v G F n.keys/\RowAt intI v G D n.items):=hid ⟨B.out.1.below (S.mono (by have:=l.out;omega)),B.out.2.below (S.mono (by have:=l.out;omega))⟩;have L6:Hid (Below w1.heap.size w1 v):=hid (u.out.2.trans (S.mono l.out.2));clear q b6 S s3 s4;go_loop [3,34] (fun s3 s34=>∃(r:Nat) (b2:Bool),r<=2/\s34=.int .i64 r/\s3=.bool b2/\Hid (b2=(b && (if r=0 then[]else if r=1 then n.keys else n.keys++n.items).all (inR ns.length)))) (fun _ s34=>2-(intOf s34).toNat)
    case atStart=>exact⟨0,b,by omega,rfl,rfl,hid (by simp)⟩
    case round=>
     obtain⟨r,b2,hr2,rfl,rfl,HR⟩:=hrel;by_cases hrl:r<2
     .have Q:(r:Int)<2:=by omega
      obtain⟨Ax,d,cx,e1,HX⟩:∃Ax d cx,v.cell? ⟨I.heap.size,r,none⟩=some (.slice Ax (d:List Int).length cx)/\Hid (RowAt intI v G Ax d/\(if r+1=0 then[]else if r+1=1 then n.keys else n.keys++n.items)=(if r=0 then[]else if r=1 then n.keys else n.keys++n.items)++d/\d.length<=1073741823):=by
       obtain rfl|rfl:r=0\/r=1:=by omega
       .exact⟨F,n.keys,K,L.out.cell 0,hid ⟨R.out.1,by simp,M⟩⟩
       .exact⟨D,n.items,J,L.out.cell 1,hid ⟨R.out.2,by simp,W⟩⟩
      have hxl:=HX.out.2.2;go_upto_region 9 with fail;clear e1;go_loop [3,40] (fun s3 s40=>∃(y:Nat) (b3:Bool),y<=d.length/\s40=.int .i64 y/\s3=.bool b3/\Hid (b3=(b2 && (d.take y).all (inR ns.length)))) (fun _ s40=>d.length-(intOf s40).toNat)
      case atStart=>exact⟨0,b2,by omega,rfl,rfl,hid (by simp)⟩
      case round=>
       obtain⟨y,b3,hy,rfl,rfl,o⟩:=hrel;by_cases hyl:y<d.length
       .have U:(y:Int)<(d.length:Int):=by omega
        obtain⟨x,hx⟩:=ex (d[y])
        obtain⟨adx,rfl,hadx,y0⟩:=ze3 HX.out.1 hyl;rw[hx]at y0;have p:Hid ((d.take (y+1)).all (inR ns.length)=((d.take y).all (inR ns.length) && (decide (0<=x) && decide (x<(ns.length:Int))))):=hid (by rw[zb5 _ _ _ hyl,hx];rfl);clear hx;cases b3 with
        |false=>
         have g:Hid (false=(b2 && (d.take (y+1)).all (inR ns.length))):=hid (by rw[p.out,<-Bool.and_assoc,<-o.out];rfl);clear o;go_wp2;go_round
         case rel=>exact⟨y+1,false,by omega,by go_num,rfl,g⟩
         case measure=>simp[intOf];omega
        |true=>
         by_cases h1:0<=x
         .by_cases h2:x<(ns.length:Int)
          .have g:Hid (true=(b2 && (d.take (y+1)).all (inR ns.length))):=hid (by rw[p.out,<-Bool.and_assoc,<-o.out];simp[h1,h2]);clear o;go_wp2;go_round
           case rel=>exact⟨y+1,true,by omega,by go_num,rfl,g⟩
           case measure=>simp[intOf];omega
          .have g:Hid (false=(b2 && (d.take (y+1)).all (inR ns.length))):=hid (by rw[p.out,<-Bool.and_assoc,<-o.out];simp[h2]);clear o;go_wp2;go_round
           case rel=>exact⟨y+1,false,by omega,by go_num,rfl,g⟩
           case measure=>simp[intOf];omega
         .have g:Hid (false=(b2 && (d.take (y+1)).all (inR ns.length))):=hid (by rw[p.out,<-Bool.and_assoc,<-o.out];simp[h1]);clear o;go_wp2;go_round
          case rel=>exact⟨y+1,false,by omega,by go_num,rfl,g⟩
          case measure=>simp[intOf];omega
       .have U:¬(y:Int)<(d.length:Int):=by omega
        have g:Hid (b3=(b && (if r+1=0 then[]else if r+1=1 then n.keys else n.keys++n.items).all (inR ns.length))):=hid (by
         rw[HX.out.2.1,List.all_append,<-Bool.and_assoc,<-HR.out];have:=o.out;rwa[show y=d.length from by omega,List.take_length]at this)
        go_wp2;go_round
        case rel=>exact⟨r+1,b3,by omega,by go_num,rfl,g⟩
        case measure=>simp[intOf];omega
     .have Q:¬(r:Int)<2:=by omega
      have g:Hid (b2=(C && (ns.take (j+1)).all (rng ns.length))/\Below w1.heap.size w1 v):=hid ⟨by
       have:=HR.out;rw[show r=2 from by omega]at this;rw[O.out,<-Bool.and_assoc,<-u.out.1];exact this,L6.out⟩
      go_wp2;go_roundw
      case rel=>exact⟨j+1,b2,by omega,by go_num,rfl,g⟩
      case measure=>simp[intOf];omega
   .have N:¬(j:Int)<(ns.length:Int):=by omega
    have z:Hid (indB ns root=b/\Below w.heap.size w f):=hid ⟨by
     have:=u.out.1;rw[show j=ns.length from by omega,List.take_length]at this;unfold indB;rw[s.out,this],L1.out.trans (u.out.2.mono L1.out.size)⟩
    go_wp2;go_ret;rw[z.out.1];exact⟨rfl,z.out.2⟩
theorem zeb (n:Gr.Str) (hl:n.length<=1073741823) (w:World):
 Calls prog 36 #[.string ⟨n.toArray⟩] w fun e w'=>e=.returned (.bool (Gr.intB n))/\Below w.heap.size w w':=by
 have f:=Lib.hid (fun W=>zjj n hl W);obtain⟨r,a⟩:=ex (Gr.intB n)
 rw[a]at f ⊢;clear a;go_enter func36,ntmps36;go_wp2_with fail;refine(f.out _).mono ?_;rintro e w2 ⟨b,A,m,c,rfl,d⟩;have g:=Lib.hid d;clear d;go_wp2;go_ret;exact⟨rfl,g.out.alloc g.out.size _⟩
end Go.Proofs.YtpjmhafmeieloabGreatDoor

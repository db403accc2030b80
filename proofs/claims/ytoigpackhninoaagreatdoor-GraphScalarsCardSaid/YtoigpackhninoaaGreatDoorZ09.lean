import Derived.Test.YtoigpackhninoaaGreatDoorZ08
namespace Go.Proofs.YtoigpackhninoaaGreatDoor
open Gr
open _root_.Go.Proofs.Tryz
open _root_.Go.Lib (hid)
set_option maxRecDepth 100000
set_option maxHeartbeats 16000000
open Go.RowKit
structure DepF (w:World) (gb rC rB:Nat) (A Az:Option Addr) (c:Nat) (root:Int) (vs:List NV) (ns:List Gr.Nd) (inn:List Int) (sizes:List Nat):Prop where
 bg:Blk w gb 24 #[.slice A ns.length c,.int .i64 root]
 lg:gb<rB
 bc:Blk w rC 3 (jcells inn)
 lc:rC<rB
 rz:RowAt intL w rB Az sizes
 at_:GAt w rB A vs ns
theorem DepF.below {w w':World} {gb rC rB:Nat} {A Az:Option Addr} {c:Nat} {root:Int} {vs:List NV} {ns:List Gr.Nd} {inn:List Int} {sizes:List Nat} (h:DepF w gb rC rB A Az c root vs ns inn sizes) (hb:Below rB w w'):DepF w' gb rC rB A Az c root vs ns inn sizes:=
 ⟨h.bg.below hb h.lg,h.lg,h.bc.below hb h.lc,h.lc,h.rz.below hb,h.at_.below hb⟩
theorem zq3 (t:Gr.TS) (v:Nat):t.cn v=t.inn.getD v (-1):=rfl
theorem zgb (A:Option Addr) (c root:Nat) (vs:List NV) (ns:List Gr.Nd) (hr:Refs ns) (hl:ns.length<=1073741823) (hks:∀n∈ns,n.keys.length<=1073741823/\n.items.length<=1073741823) (hroot:root<ns.length)
 (hall:∀v,v<ns.length->Gr.Reach (Gr.succ ns) root v) (w:World) (h:GAt w w.heap.size A vs ns):
 Calls prog 39 #[.agg #[.slice A ns.length c,.int .i64 root]] w fun e w'=>e=.returned (.tuple #[.int .i64 (depth ns root).1,.bool (depth ns root).2])/\Below w.heap.size w w':=by
 obtain⟨hC,hCl,hCz⟩:=zn9 hr.succ root hroot hall;have HC:=hid hC;have H:=hid h;have HCOMP:=hid (fun W hW=>zer A c root vs ns hr hl hks hroot W (h.below hW|>.more hW.size));obtain⟨t,ht⟩:=ex (tcomp (Gr.succ ns) ns.length root)
 rw[ht]at hCl hCz HC;have HT:=hid ht;obtain⟨m,hm⟩:=ex t.sizes.length
 have HM:=hid hm;rw[hm]at hCz;have hml:m<=1073741823:=by omega
 have hmk:=fun W=>zct m (by omega) W
 have hms:=fun W=>zhj m (by omega) W
 have hrI:(root:Int)<(ns.length:Int):=by omega
 have HCL:=hid hCl;have HCZ:=hid hCz;clear h hC ht hm hCl hCz;go_enter func39,ntmps39;go_upto_region 1 with fail;obtain⟨w1,hw1⟩:=ex (w.alloc (.cells #[.slice A ns.length c,.int .i64 root] 24))
 (try rw[hw1]);have l1:Below w.heap.size w w1:=by rw[<-hw1];exact(Below.refl _ _).alloc (Nat.le_refl _) _
 have b1:Blk w1 w.heap.size 24 #[.slice A ns.length c,.int .i64 root]:=by rw[<-hw1];exact Blk.new _ _ _
 obtain⟨gb,hgb⟩:=ex w.heap.size
 have HGB:=hid hgb;have L1:=hid l1;(try rw[hgb]);rw[hgb]at b1;have HB1:=hid b1;obtain⟨g0,g1⟩:=cells2 b1;have HCW:=hid (HCOMP.out w1 l1);clear hw1 hgb l1 b1;go_wp2_with fail;refine HCW.out.mono ?_;rintro e w2 ⟨rC,Az,cz,rfl,h1,h2,h3,h4⟩;rw[HT.out]at h3 h4 ⊢;rw[HM.out]at h4 ⊢;obtain⟨Az',cz',hAz,hrz⟩:=h4.form;rw[HM.out]at hAz;injection hAz with e1 _ e2
 subst e1;subst e2;obtain⟨rB,hrB⟩:=ex w2.heap.size
 have hlo:gb<rB:=by have:=h2.size;have:=HB1.out.lt;omega
 have HF2:Hid (DepF w2 gb rC rB A Az c root vs ns t.inn t.sizes):=hid ⟨HB1.out.below h2 HB1.out.lt,hlo,h3,by have:=h3.lt;omega,by rw[<-hrB];exact hrz,(H.out.below (L1.out.trans (h2.mono (by have:=L1.out.size;omega)))).more (by have:=HGB.out;omega)⟩;have HL2:Hid (Below w.heap.size w w2):=hid (L1.out.trans (h2.mono L1.out.size));clear h1 h2 h3 h4 g0 g1 hrz;go_upto_region 5 with fail;obtain⟨w4,hw4⟩:=ex ((w2.alloc (.cells (icells (List.replicate m 0)) 3)).alloc (.cells (Array.replicate m (Value.slice none 0 0)) 33))
 have l4:Below rB w2 w4:=by rw[<-hw4,<-hrB];exact((Below.refl _ _).alloc (Nat.le_refl _) _).alloc (by simp) _
 have hs4:w4.heap.size=rB+1+1:=by rw[<-hw4];simp[hrB]
 have b4:Blk w4 rB 3 (icells (List.replicate m 0)):=by rw[<-hw4,<-hrB];exact(Blk.new _ _ _).alloc _
 have m4:Blk w4 (rB+1) 33 (Array.replicate m (Value.slice none 0 0)):=by
  rw[<-hw4,<-hrB];have:=Blk.new (w2.alloc (.cells (icells (List.replicate m 0)) 3)) 33 (Array.replicate m (Value.slice none 0 0));rw[World.size_alloc]at this;exact this
 obtain⟨rM,hrM⟩:=ex (rB+1)
 rw[hrM]at m4 hs4;obtain⟨D,hD⟩:=ex (rM+1)
 rw[hD]at hs4;have HLO:Hid (gb<rB/\rB<rM/\rM<D/\w4.heap.size=D/\w.heap.size=gb):=hid ⟨hlo,by omega,by omega,hs4,HGB.out⟩;have HF4:=hid (HF2.out.below l4);have HL4:Hid (Below w.heap.size w w4):=hid (HL2.out.trans (l4.mono (by rw[HGB.out];omega)));have HB4:=hid b4;have HME:Hid (Mems w4 D rM (List.replicate m (.slice none 0 0)) (List.replicate m [])):=hid (Mems.start (by simpa using m4) (by omega) (by omega));rw[hrM,hw4];have hci:=fun v (hv:v<ns.length)=>HC.out.rng v hv
 have HCI:=hid hci;clear hw4 hrB l4 hs4 b4 m4 hrM hD hlo hci hmk hms;go_upto_region 6 with fail;go_loopw [31] (fun s31 wr=>∃i:Nat,i<=ns.length/\s31=.int .i64 i/\Hid (KB rM w4 wr/\∃mv,Mems wr D rM mv (memsL t.cn i m))) (fun s31 _=>ns.length-(intOf s31).toNat)
 case atStart=>exact⟨0,by omega,rfl,hid ⟨KB.refl _ _,_,by rw[zjp];exact HME.out⟩⟩
 case round=>
  obtain⟨i,hi,rfl,HW⟩:=hrel;by_cases hlt:i<ns.length
  ·have hltI:(i:Int)<(ns.length:Int):=by omega
   obtain⟨hk,mv,hM⟩:=HW.out;obtain⟨hc0,hc1⟩:=HCI.out i hlt;obtain⟨cc,hcc⟩:∃cc:Nat,t.cn i=(cc:Int):=⟨(t.cn i).toNat,by omega⟩
   rw[hcc,HM.out]at hc1;have hccm:cc<m:=by omega
   have hccI:(cc:Int)<(m:Int):=by omega
   have hmv:cc<mv.length:=by rw[hM.len,zby];exact hccm
   have y0:wr.cell? ⟨rC,i,none⟩=some (.int .i64 (cc:Int)):=by
    have:=((HF4.out.below (hk.below (by have:=HLO.out;omega) (by have:=HLO.out;omega))).bc).cell i;rw[this,zbm (by rw[HCL.out];exact hlt),<-zq3,hcc]
   have hc2:cc<(memsL t.cn i m).length:=by rw[zby];exact hccm
   obtain⟨Ac,capc,hme,z0,hra⟩:=hM.at_ hc2;have hov:=hM.own cc hmv hc2;have hmvc:mv[cc]=.slice Ac (memsL t.cn i m)[cc].length capc:=by
    have h1:=hM.blk.cell cc;rw[z0]at h1;simpa[List.getElem?_eq_getElem hmv]using h1.symm
   rw[zbz]at z0 hov hmvc;clear hra hme hc2;have hml2:=zd4 t.cn i cc;obtain⟨L,hL⟩:=ex (members t.cn i cc)
   rw[hL]at z0 hov hml2 hmvc;rw[hmvc]at hov;have HLL:Hid (memsL t.cn (i+1) m=(memsL t.cn i m).set cc (L++[i])):=hid (by rw[zjq _ _ _ _ hcc,hL]);have zf:∀j,wr.frozen? ⟨rM,j,none⟩=false:=hM.blk.frozen;have HOV:=hid hov;have HMM:Hid (∃hmv:cc<mv.length,KB rM w4 wr/\Mems wr D rM mv (memsL t.cn i m)/\mv[cc]=.slice Ac L.length capc):=hid ⟨hmv,hk,hM,hmvc⟩;have HLH:Hid (D<=wr.heap.size/\L.length+1<=1073741823):=hid ⟨hM.hd,by omega⟩;clear hk hM hc0 hc1 hcc hmv hov hmvc hml2 hL;go_upto_region 8 with fail;clear y0;go_wp2_with (at_builtin;go_must (refine zac _ rfl (.tmp 41) (.tmp 43) 33 3 8 rfl intT D (.slice Ac L.length capc) L rfl (HOV.out.alloc _) _ _ 1 [i] rfl (RowAt.lit1 _ _ rfl _ ?_) ?_ ?_ ?_))
   any_goals (first|rfl| (have:=HLH.out;omega)| (have:=HLH.out;simp;omega)| (rw[World.size_alloc];have:=HLH.out;omega))
   intro v' w3 hown hg hat;obtain⟨hmv,hk,hM,hmvc⟩:=HMM.out;have hMa:=hM.alloc (.cells #[.int .i64 i] 3);rw[<-hmvc]at hg hat;have hM2:=hMa.grown hmv hown hg (by rw[World.size_alloc];exact hat);have hk2:=hMa.grownKB (hk.alloc _) HLO.out.2.2.2.1 hmv v' hg;have hb3:Blk w3 rM 33 mv.toArray:=hMa.blk.grown hg (fun e=>by have:=((hMa.own cc hmv (by rw[zby];omega)).lt rM e.symm).1;have:=HLO.out;omega);have pc3:w3.cell? ⟨rM,cc,none⟩=some mv[cc]:=by rw[hb3.cell];simp[List.getElem?_eq_getElem hmv]
   rw[hmvc]at pc3;have pf3:∀j,w3.frozen? ⟨rM,j,none⟩=false:=hb3.frozen;obtain⟨g3,cap3,hv3,_⟩:=hown.shape (by simp);obtain⟨n3,hn3⟩:=ex ((L++[i]).length)
   rw[hn3]at hv3;subst hv3;have HNX:Hid (KB rM w4 (w3.setCell ⟨rM,cc,none⟩ (.slice (some ⟨g3,0,none⟩) n3 cap3))/\∃mv,Mems (w3.setCell ⟨rM,cc,none⟩ (.slice (some ⟨g3,0,none⟩) n3 cap3)) D rM mv (memsL t.cn (i+1) m)):=hid ⟨hk2,_,by rw[HLL.out];exact hM2⟩;clear hmvc hk hM hMa hown hg hat hM2 hk2 hb3 hn3 z0 zf hmv;go_wp2;go_roundw
   case rel=>exact⟨i+1,by omega,by go_num,HNX⟩
   case measure=>simp[intOf];omega
  ·have hltI:¬((i:Int)<(ns.length:Int)):=by omega
   have hie:i=ns.length:=by omega
   obtain⟨hk,mv,hM⟩:=HW.out;rw[hie]at hM;obtain⟨wl,hwl⟩:∃wl,wl=wr:=⟨_,rfl⟩
   subst hwl;have HML:Hid (Mems wl D rM mv (memsL t.cn ns.length m)):=hid hM;have HFL:Hid (DepF wl gb rC rB A Az c root vs ns t.inn t.sizes):=hid (HF4.out.below (hk.below (by have:=HLO.out;omega) (by have:=HLO.out;omega)));have HLL:Hid (Below w.heap.size w wl/\D<=wl.heap.size):=hid ⟨HL4.out.trans (hk.below (by have:=HLO.out;omega) (by have:=HLO.out;omega)),hM.hd⟩;have HBL:Hid (Blk wl rB 3 (icells (List.replicate m 0))):=hid (hk.blk HB4.out (by have:=HLO.out;omega));clear hk hM HW hie hi hlt;go_upto_region 11 with fail;clear hltI;go_loopw [6,49] (fun s6 s49 wr=>∃(k:Nat) (p:List Nat×Bool),k<=m/\s49=.int .i64 k/\s6=.bool p.2/\Hid (p=(List.range k).foldl (dcomp (Gr.succ ns) t.cn ns.length t.sizes) (List.replicate m 0,true)/\KB rB wl wr/\Blk wr rB 3 (icells p.1))) (fun _ s49 _=>m-(intOf s49).toNat)
   case atStart=>exact⟨0,(List.replicate m 0,true),by omega,rfl,rfl,hid ⟨rfl,KB.refl _ _,HBL.out⟩⟩
   case round=>
    obtain⟨k,p,hk,rfl,rfl,HW⟩:=hrel;obtain⟨wq,hwq⟩:∃wq,wq=wr:=⟨_,rfl⟩
    subst hwq;by_cases hlt:k<m
    ·have hltI:(k:Int)<(m:Int):=by omega
     have hM:=HML.out.kb HW.out.2.1 (by have:=HLO.out;omega) (by have:=HLO.out;omega);obtain⟨Ak,capk,hmv,z0,hrk⟩:=hM.at_ (c:=k) (by rw[zby];exact hlt);clear hrk;rw[zbz]at z0 hmv;have HRK:Hid (∀W,KB rB wl W->RowAt intL W W.heap.size Ak (members t.cn ns.length k)):=hid (fun W hW=>by
      have:=(HML.out.kb hW (by have:=HLO.out;omega) (by have:=HLO.out;omega)).row (c:=k) (by rw[zby];exact hlt) hmv;rwa[zbz]at this)
     clear hmv;have hML:=zd4 t.cn ns.length k;have HLI:Hid (∀x∈members t.cn ns.length k,x<ns.length):=hid (zjr t.cn ns.length k);have HDC:Hid (dcomp (Gr.succ ns) t.cn ns.length t.sizes p k=((((members t.cn ns.length k).foldl (fun p i=>(Gr.succ ns i).foldl (dstep t.cn k) p) p).1.set k (((members t.cn ns.length k).foldl (fun p i=>(Gr.succ ns i).foldl (dstep t.cn k) p) p).1.getD k 0+t.sizes.getD k 0)),((members t.cn ns.length k).foldl (fun p i=>(Gr.succ ns i).foldl (dstep t.cn k) p) p).2)):=hid rfl;obtain⟨Lk,hLk⟩:=ex (members t.cn ns.length k)
     rw[hLk]at z0 HRK hML HLI HDC;have hsN:∀j,t.sizes.getD j 0<=ns.length:=fun j=>by
      by_cases hj:j<t.sizes.length
      ·rw[HC.out.cnt j hj];exact Nat.le_trans List.countP_le_length (by simp)
      ·simp[List.getD_eq_getElem?_getD,List.getElem?_eq_none (Nat.le_of_not_lt hj)]
     have HSN:=hid hsN;have hpl:p.1.length=m:=by rw[HW.out.1,zey];simp
     have hsm:Sml (k*ns.length) p:=by
      rw[HW.out.1];refine Sml.comps (fun j=>?_) hsN k;simp[List.getD_eq_getElem?_getD,List.getElem?_replicate];split<;>simp
     obtain⟨M,hMM⟩:=ex (k*ns.length)
     rw[hMM]at hsm;have HMB:Hid (M<=1152921504606846976):=hid (by rw[<-hMM];exact Nat.le_trans (Nat.mul_le_mul (show k<=1073741824 by omega) (show ns.length<=1073741824 by omega)) (by decide));have HPL:=hid hpl;have HSM:=hid hsm;clear hM hLk hsN hpl hsm hMM;go_upto_region 14 with fail;clear z0;go_loopw [6,57] (fun s6 s57 wr=>∃(j:Nat) (q:List Nat×Bool),j<=Lk.length/\s57=.int .i64 j/\s6=.bool q.2/\Hid (q=(Lk.take j).foldl (fun p i=>(Gr.succ ns i).foldl (dstep t.cn k) p) p/\KB rB wl wr/\Blk wr rB 3 (icells q.1))) (fun _ s57 _=>Lk.length-(intOf s57).toNat)
     case atStart=>exact⟨0,p,by omega,rfl,rfl,hid ⟨rfl,HW.out.2.1,HW.out.2.2⟩⟩
     case round=>
      obtain⟨j,q,hj,rfl,rfl,HV⟩:=hrel;obtain⟨wv,hwv⟩:∃wv,wv=wr:=⟨_,rfl⟩
      subst hwv;by_cases hjl:j<Lk.length
      ·have hjlI:(j:Int)<(Lk.length:Int):=by omega
       obtain⟨i,hi⟩:=ex (Lk[j])
       have hin:i<ns.length:=by rw[<-hi];exact HLI.out _ (List.getElem_mem hjl)
       obtain⟨adk,rfl,hadk,y0⟩:=zag (HRK.out _ HV.out.2.1) hjl;rw[hi]at y0;have hFv:=HFL.out.below (HV.out.2.1.below (B:=rB) (Nat.le_refl _) (by have:=HLL.out;have:=HLO.out;omega));have g0:wv.cell? ⟨gb,0,none⟩=some (.slice A ns.length c):=hFv.bg.cell 0;obtain⟨ad,ks,is,rfl,hN⟩:=hFv.at_.node hin;obtain⟨ka,kn,kc⟩:=ks;obtain⟨ia,inn,ic⟩:=is;have hnm:ns[i]∈ns:=List.getElem_mem hin;obtain⟨hkl,hil⟩:=hks _ hnm;have hsc:Gr.succ ns i=ns[i].keys++ns[i].items:=by unfold Gr.succ;rw[List.getElem?_eq_getElem hin]
       have HRF:Hid (∀x∈ns[i].keys++ns[i].items,x<ns.length):=hid (hr _ hnm);obtain⟨n,hn⟩:=ex (ns[i])
       rw[hn]at hN hkl hil hsc HRF;obtain rfl:kn=n.keys.length:=hN.kn;obtain rfl:inn=n.items.length:=hN.inn;have x3:=hN.c3;have x4:=hN.c4;have HTK:Hid ((Lk.take (j+1)).foldl (fun p i=>(Gr.succ ns i).foldl (dstep t.cn k) p) p=(n.keys++n.items).foldl (dstep t.cn k) q):=hid (by
        rw[zal _ _ hjl,List.foldl_append,<-HV.out.1,hi,List.foldl_cons,List.foldl_nil,hsc])
       have HKI:Hid (RowAt intL wv rB ka n.keys/\RowAt intL wv rB ia n.items):=hid ⟨hN.keys,hN.items⟩;have hinI:(i:Int)<(ns.length:Int):=by omega
       clear hFv hN hnm hsc hn hi;go_upto_region 16 with fail;go_region_held3 (fun w'=>w'.cell? ⟨gb,0,none⟩=some (.slice (some ad) ns.length c)/\w'.cell? {block:=(ad.add (i*5)).block,off:=(ad.add (i*5)).off+3}=some (.slice ka n.keys.length kc)/\w'.cell? {block:=(ad.add (i*5)).block,off:=(ad.add (i*5)).off+4}=some (.slice ia n.items.length ic)) (go_keep) (fail);go_upto_region 17 with fail;clear x3 x4 g0 y0;obtain⟨w5,hw5⟩:=ex ((wv.alloc (.cells #[.slice ka n.keys.length kc,.slice ia n.items.length ic] 33)).drew)
       obtain⟨lb,hlb⟩:=ex wv.heap.size
       have b5:Blk w5 lb 33 #[.slice ka n.keys.length kc,.slice ia n.items.length ic]:=by rw[<-hw5,<-hlb];exact(Blk.new _ _ _).drew
       have k5:KB rB wv w5:=by rw[<-hw5];exact((KB.refl _ _).alloc _).drewN 1
       have HLB:Hid (rB<lb/\rB<=wv.heap.size):=hid ⟨by have:=HV.out.2.2.lt;omega,Nat.le_of_lt HV.out.2.2.lt⟩;have HB5:Hid (KB rB wl w5/\Blk w5 rB 3 (icells q.1)/\Blk w5 lb 33 #[.slice ka n.keys.length kc,.slice ia n.items.length ic]):=hid ⟨HV.out.2.1.trans k5,by rw[<-hw5];exact(HV.out.2.2.alloc _).drew,b5⟩;have HKI5:Hid (RowAt intL w5 rB ka n.keys/\RowAt intL w5 rB ia n.items):=hid ⟨HKI.out.1.below (k5.below (Nat.le_refl _) HLB.out.2),HKI.out.2.below (k5.below (Nat.le_refl _) HLB.out.2)⟩;rw[hw5,hlb];clear hw5 b5 k5 hlb;go_loopw [6,75] (fun s6 s75 wr=>∃(r:Nat) (q2:List Nat×Bool),r<=2/\s75=.int .i64 r/\s6=.bool q2.2/\Hid (q2=(if r=0 then[]else if r=1 then n.keys else n.keys++n.items).foldl (dstep t.cn k) q/\KB rB w5 wr/\Blk wr rB 3 (icells q2.1)/\Blk wr lb 33 #[.slice ka n.keys.length kc,.slice ia n.items.length ic])) (fun _ s75 _=>2-(intOf s75).toNat)
       case atStart=>exact⟨0,q,by omega,rfl,rfl,hid ⟨rfl,KB.refl _ _,HB5.out.2⟩⟩
       case round=>
        obtain⟨r,q2,hr2,rfl,rfl,HR⟩:=hrel;obtain⟨wx,hwx⟩:∃wx,wx=wr:=⟨_,rfl⟩
        subst hwx;by_cases hrl:r<2
        ·have hrlI:(r:Int)<2:=by omega
         obtain⟨Ax,Lx,cx,e1,HX⟩:∃Ax Lx cx,wx.cell? ⟨lb,r,none⟩=some (.slice Ax (Lx:List Nat).length cx)/\Hid (RowAt intL w5 rB Ax Lx/\(if r+1=0 then[]else if r+1=1 then n.keys else n.keys++n.items)=(if r=0 then[]else if r=1 then n.keys else n.keys++n.items)++Lx/\(∀x∈Lx,x<ns.length)/\Lx.length<=1073741823):=by
          obtain rfl|rfl:r=0\/r=1:=by omega
          ·exact⟨ka,n.keys,kc,HR.out.2.2.2.cell 0,hid ⟨HKI5.out.1,by simp,fun x hx=>HRF.out x (List.mem_append_left _ hx),hkl⟩⟩
          ·exact⟨ia,n.items,ic,HR.out.2.2.2.cell 1,hid ⟨HKI5.out.2,by simp,fun x hx=>HRF.out x (List.mem_append_right _ hx),hil⟩⟩
         have hxl:=HX.out.2.2.2;go_upto_region 20 with fail;clear e1;go_loopw [6,81] (fun s6 s81 wr=>∃(y:Nat) (q3:List Nat×Bool),y<=Lx.length/\s81=.int .i64 y/\s6=.bool q3.2/\Hid (q3=(Lx.take y).foldl (dstep t.cn k) q2/\KB rB w5 wr/\Blk wr rB 3 (icells q3.1)/\Blk wr lb 33 #[.slice ka n.keys.length kc,.slice ia n.items.length ic])) (fun _ s81 _=>Lx.length-(intOf s81).toNat)
         case atStart=>exact⟨0,q2,by omega,rfl,rfl,hid ⟨rfl,HR.out.2⟩⟩
         case round=>
          obtain⟨y,q3,hy,rfl,rfl,HY⟩:=hrel;by_cases hyl:y<Lx.length
          ·have hylI:(y:Int)<(Lx.length:Int):=by omega
           obtain⟨x,hx⟩:=ex (Lx[y])
           have hxn:x<ns.length:=by rw[<-hx];exact HX.out.2.2.1 _ (List.getElem_mem hyl)
           have hkw5:Below rB w5 wr:=HY.out.2.1.below (Nat.le_refl _) (Nat.le_of_lt HB5.out.2.1.lt);obtain⟨adx,rfl,hadx,y0⟩:=zag (HX.out.1.below hkw5) hyl;rw[hx]at y0;obtain⟨hd0,hd1⟩:=HCI.out x hxn;obtain⟨d,hd⟩:∃d:Nat,t.cn x=(d:Int):=⟨(t.cn x).toNat,by omega⟩
           rw[hd,HM.out]at hd1;have hdI:(d:Int)<(m:Int):=by omega
           have hFr:=(HFL.out.below (HB5.out.1.below (B:=rB) (Nat.le_refl _) (by have:=HLL.out;have:=HLO.out;omega))).below hkw5;have r0:wr.cell? ⟨rC,x,none⟩=some (.int .i64 (d:Int)):=by
            rw[hFr.bc.cell,zbm (by rw[HCL.out];exact hxn),<-zq3,hd]
           have hxnI:(x:Int)<(ns.length:Int):=by omega
           have HTX:Hid ((Lx.take (y+1)).foldl (dstep t.cn k) q2=dstep t.cn k q3 x):=hid (by rw[zal _ _ hyl,List.foldl_append,<-HY.out.1,hx];rfl);have hyb:y<=1073741823:=by omega
           by_cases hdk:d=k
           ·have hdkb:((k:Int)==(k:Int))=true:=by simp
            rw[hdk]at r0;have HNX:Hid ((q3.1,false)=(Lx.take (y+1)).foldl (dstep t.cn k) q2/\KB rB w5 wr/\Blk wr rB 3 (icells q3.1)/\Blk wr lb 33 #[.slice ka n.keys.length kc,.slice ia n.items.length ic]):=hid ⟨by rw[HTX.out];unfold dstep;rw[if_pos (by rw[hd,hdk])],HY.out.2⟩;clear hFr hkw5 hd hd0 hd1 hx hdk;go_wp2;go_roundw
            case rel=>exact⟨y+1,(q3.1,false),by omega,by go_num,rfl,HNX⟩
            case measure=>simp[intOf];omega
           ·have hdkb:((d:Int)==(k:Int))=false:=by simp;omega
            have hdkI:¬(d:Int)=(k:Int):=by omega
            obtain⟨a,ha⟩:=ex (q3.1.getD k 0)
            obtain⟨b,hb⟩:=ex (q3.1.getD d 0)
            have hq3:q3.1.length=m:=by rw[HY.out.1,zd5,HR.out.1,zd5,HV.out.1,zc7];exact HPL.out
            have hsm3:Sml M q3:=by rw[HY.out.1];refine Sml.fold _ ?_;rw[HR.out.1];refine Sml.fold _ ?_;rw[HV.out.1];exact Sml.foldM _ _ HSM.out
            have hab:a<=1152921504606846976:=by have:=hsm3 k;have:=HMB.out;omega
            have hbb:b<=1152921504606846976:=by have:=hsm3 d;have:=HMB.out;omega
            have z1:wr.cell? ⟨rB,k,none⟩=some (.int .i64 (a:Int)):=by rw[HY.out.2.2.1.cell,zad (by omega),ha]
            have z2:wr.cell? ⟨rB,d,none⟩=some (.int .i64 (b:Int)):=by rw[HY.out.2.2.1.cell,zad (by omega),hb]
            have zf:∀j,wr.frozen? ⟨rB,j,none⟩=false:=HY.out.2.2.1.frozen;have HNX:∀v:Nat,v=max a b->Hid ((q3.1.set k v,q3.2)=(Lx.take (y+1)).foldl (dstep t.cn k) q2/\KB rB w5 (wr.setCell ⟨rB,k,none⟩ (.int .i64 (v:Int))).drew/\Blk (wr.setCell ⟨rB,k,none⟩ (.int .i64 (v:Int))).drew rB 3 (icells (q3.1.set k v))/\Blk (wr.setCell ⟨rB,k,none⟩ (.int .i64 (v:Int))).drew lb 33 #[.slice ka n.keys.length kc,.slice ia n.items.length ic]):=fun v hv=>hid ⟨by rw[HTX.out];unfold dstep;rw[if_neg (by rw[hd];exact hdkI),hd,ha,show((d:Int)).toNat=d from by omega,hb,hv],(HY.out.2.1.set _ _).drewN 1,by rw[<-zav];exact(HY.out.2.2.1.set_ k _).drew,(HY.out.2.2.2.far (by have:=HLB.out;simp;omega) _).drew⟩
            have HNH:=hid HNX;clear hFr hkw5 hd hd0 hd1 hx hdk HNX hq3 hsm3 ha hb;go_upto_region 24 with fail;by_cases hmx:a<b
            all_goals go_region
            all_goals go_wp2_with fail
            all_goals
             go_roundw
             case rel=>first| (rw[show max (a:Int) (b:Int)=((max a b:Nat):Int)from by omega];exact⟨y+1,(q3.1.set k (max a b),q3.2),by omega,by go_num,rfl,HNH.out (max a b) rfl⟩)|exact⟨y+1,(q3.1.set k a,q3.2),by omega,by go_num,rfl,HNH.out a (by omega)⟩|exact⟨y+1,(q3.1.set k b,q3.2),by omega,by go_num,rfl,HNH.out b (by omega)⟩
             case measure=>simp[intOf];omega
          ·have hylI:¬(y:Int)<(Lx.length:Int):=by omega
           have HNX:Hid (q3=(if r+1=0 then[]else if r+1=1 then n.keys else n.keys++n.items).foldl (dstep t.cn k) q/\KB rB w5 wr/\Blk wr rB 3 (icells q3.1)/\Blk wr lb 33 #[.slice ka n.keys.length kc,.slice ia n.items.length ic]):=hid ⟨by
            rw[HX.out.2.1,List.foldl_append,<-HR.out.1];have:=HY.out.1;rwa[show y=Lx.length from by omega,List.take_length]at this,HY.out.2⟩
           go_wp2;go_roundw
           case rel=>exact⟨r+1,q3,by omega,by go_num,rfl,HNX⟩
           case measure=>simp[intOf];omega
        ·have hrlI:¬(r:Int)<2:=by omega
         have HNX:Hid (q2=(Lk.take (j+1)).foldl (fun p i=>(Gr.succ ns i).foldl (dstep t.cn k) p) p/\KB rB wl wx/\Blk wx rB 3 (icells q2.1)):=hid ⟨by
          have:=HR.out.1;rw[show r=2 from by omega]at this;rw[HTK.out];exact this,HB5.out.1.trans HR.out.2.1,HR.out.2.2.1⟩
         go_wp2;go_roundw
         case rel=>exact⟨j+1,q2,by omega,by go_num,rfl,HNX⟩
         case measure=>simp[intOf];omega
      ·have hjlI:¬(j:Int)<(Lk.length:Int):=by omega
       obtain⟨a,ha⟩:=ex (q.1.getD k 0)
       obtain⟨b,hb⟩:=ex (t.sizes.getD k 0)
       have hq:q=Lk.foldl (fun p i=>(Gr.succ ns i).foldl (dstep t.cn k) p) p:=by
        have:=HV.out.1;rwa[show j=Lk.length from by omega,List.take_length]at this
       have hql:q.1.length=m:=by rw[hq,zc7];exact HPL.out
       have hab:a<=1152921504606846976:=by
        have h1:Sml M q:=by rw[hq];exact Sml.foldM _ _ HSM.out
        have:=h1 k;have:=HMB.out;omega
       have hbb:b<=1073741823:=by have:=HSN.out k;omega
       have hFv:=HFL.out.below (HV.out.2.1.below (B:=rB) (Nat.le_refl _) (by have:=HLL.out;have:=HLO.out;omega));have hkz:k<t.sizes.length:=by rw[HM.out];exact hlt
       have hbe:t.sizes[k]=b:=by rw[<-hb];simp[List.getD_eq_getElem?_getD,List.getElem?_eq_getElem hkz]
       obtain⟨adz,rfl,hadz,z2⟩:=zag hFv.rz hkz;rw[hbe]at z2;have z1:wv.cell? ⟨rB,k,none⟩=some (.int .i64 (a:Int)):=by rw[HV.out.2.2.cell,zad (by omega),ha]
       have zf:∀j,wv.frozen? ⟨rB,j,none⟩=false:=HV.out.2.2.frozen;have HNX:Hid ((q.1.set k (a+b),q.2)=(List.range (k+1)).foldl (dcomp (Gr.succ ns) t.cn ns.length t.sizes) (List.replicate m 0,true)/\KB rB wl (wv.setCell ⟨rB,k,none⟩ (.int .i64 ((a:Int)+(b:Int)))).drew/\Blk (wv.setCell ⟨rB,k,none⟩ (.int .i64 ((a:Int)+(b:Int)))).drew rB 3 (icells (q.1.set k (a+b)))):=hid ⟨by
        rw[List.range_succ,List.foldl_append,<-HW.out.1,List.foldl_cons,List.foldl_nil,HDC.out,<-hq,ha,hb],(HV.out.2.1.set _ _).drewN 1,by
        rw[<-zav,show(((a+b:Nat)):Int)=(a:Int)+(b:Int)from by omega];exact(HV.out.2.2.set_ k _).drew⟩
       clear ha hb hq hql hFv hbe hkz;go_upto_region 28 with fail;go_region
       all_goals go_wp2_with fail
       all_goals
        go_roundw
        case rel=>exact⟨k+1,(q.1.set k (a+b),q.2),by omega,by go_num,rfl,HNX⟩
        case measure=>simp[intOf];omega
    ·have hltI:¬(k:Int)<(m:Int):=by omega
     have hke:k=m:=by omega
     have hFv:=HFL.out.below (HW.out.2.1.below (B:=rB) (Nat.le_refl _) (by have:=HLL.out;have:=HLO.out;omega));obtain⟨hd0,hd1⟩:=HCI.out root hroot;obtain⟨d,hd⟩:∃d:Nat,t.cn root=(d:Int):=⟨(t.cn root).toNat,by omega⟩
     rw[hd,HM.out]at hd1;have hdI:(d:Int)<(m:Int):=by omega
     have r0:wq.cell? ⟨rC,root,none⟩=some (.int .i64 (d:Int)):=by
      rw[hFv.bc.cell,zbm (by rw[HCL.out];exact hroot),<-zq3,hd]
     have g1:wq.cell? ⟨gb,1,none⟩=some (.int .i64 root):=hFv.bg.cell 1;obtain⟨a,ha⟩:=ex (p.1.getD d 0)
     have hpl:p.1.length=m:=by rw[HW.out.1,zey];simp
     have z0:wq.cell? ⟨rB,d,none⟩=some (.int .i64 (a:Int)):=by rw[HW.out.2.2.cell,zad (by omega),ha]
     have hsm:Sml (m*ns.length) p:=by
      rw[HW.out.1,<-hke];refine Sml.comps (fun j=>?_) (fun j=>?_) k
      ·simp[List.getD_eq_getElem?_getD,List.getElem?_replicate];split<;>simp
      ·by_cases hj:j<t.sizes.length
       ·rw[HC.out.cnt j hj];exact Nat.le_trans List.countP_le_length (by simp)
       ·simp[List.getD_eq_getElem?_getD,List.getElem?_eq_none (Nat.le_of_not_lt hj)]
     have hab:a<=1152921504606846976:=by
      have:=hsm d;have h2:m*ns.length<=1152921504606846976:=Nat.le_trans (Nat.mul_le_mul (show m<=1073741824 by omega) (show ns.length<=1073741824 by omega)) (by decide);omega
     have HRES:Hid ((depth ns root).1=(a:Int)-1/\(depth ns root).2=p.2):=hid (by
      have hp:p=dall (Gr.succ ns) t.cn ns.length t.sizes:=by rw[HW.out.1,hke];unfold dall;rw[HM.out]
      unfold depth;simp only[HT.out];rw[<-hp,hd,<-ha];exact⟨rfl,rfl⟩)
     have HBW:Hid (Below w.heap.size w wq):=hid (HLL.out.1.trans (HW.out.2.1.below (by have:=HLO.out;omega) (by have:=HLO.out;have:=HLL.out;omega)));clear hke hFv hd0 hd1 hd ha hpl hsm;go_wp2;go_ret2;rw[HRES.out.1,HRES.out.2];exact⟨rfl,HBW.out⟩
namespace Gr
structure Ni where
 kind:Int
 text:Str
 ord:Bool
 keys:List Int
 items:List Int
def Ni.nd (x:Ni):Nd:=⟨x.kind,x.text,x.ord,x.keys.map Int.toNat,x.items.map Int.toNat⟩
def inR (n:Nat) (x:Int):Bool:=decide (0<=x) && decide (x<(n:Int))
def rng (n:Nat) (x:Ni):Bool:=(x.keys++x.items).all (inR n)
def indB (is:List Ni) (root:Int):Bool:=inR is.length root && is.all (rng is.length)
end Gr
open Go.RowKit
theorem zoi (l:List Int) (h0:∀x∈l,0<=x):intL.all (l.map Int.toNat)=intI.all l:=by
 induction l with
 |nil=>rfl
 |cons x l ih=>
  have e1:intI.all (x::l)=intI.enc x++intI.all l:=rfl;have e2:intL.all (x.toNat::l.map Int.toNat)=intL.enc x.toNat++intL.all (l.map Int.toNat):=rfl;have hx:=h0 x (.head _);rw[List.map_cons,e1,e2,ih (fun y hy=>h0 y (.tail _ hy))];show[Value.int .i64 ((x.toNat:Nat):Int)]++_=[Value.int .i64 x]++_;rw[show((x.toNat:Nat):Int)=x from by omega]
theorem zik {w:World} {B:Nat} {A:Option Addr} {l:List Int} (h:RowAt intI w B A l) (h0:∀x∈l,0<=x):RowAt intL w B A (l.map Int.toNat):=by
 unfold RowAt at h ⊢;rw[zoi l h0,List.length_map];exact h
theorem zhk {w:World} {B:Nat} {A:Option Addr} {l:List Int} {k:Nat} (h:RowAt intI w B A l) (hk:k<l.length):∃ad,A=some ad/\ad.block<B/\w.cell? (ad.add k)=some (.int .i64 l[k]):=by
 obtain⟨ad,h1,h2,h3,_⟩:=h.get hk;refine⟨ad,h1,h2,?_⟩;have:=h3 (.int .i64 l[k]) rfl;rwa[show k*intI.sz=k from Nat.mul_one k]at this
structure IAt (w:World) (B:Nat) (A:Option Addr) (vs:List NV) (ns:List Gr.Ni):Prop where
 row:RowAt nodeL w B A vs
 len:vs.length=ns.length
 kind:∀j (h:j<vs.length) (h2:j<ns.length),vs[j].kind=ns[j].kind/\vs[j].text=ns[j].text/\vs[j].ord=ns[j].ord
 nums:∀j (h:j<vs.length) (h2:j<ns.length),RowAt intI w B vs[j].k.a ns[j].keys/\vs[j].k.n=ns[j].keys.length/\RowAt intI w B vs[j].i.a ns[j].items/\vs[j].i.n=ns[j].items.length
theorem IAt.below {w w':World} {B:Nat} {A:Option Addr} {vs:List NV} {ns:List Gr.Ni} (h:IAt w B A vs ns) (hb:Below B w w'):IAt w' B A vs ns:=
 ⟨h.row.below hb,h.len,h.kind,fun j h1 h2=>let⟨a,b,c,d⟩:=h.nums j h1 h2;⟨a.below hb,b,c.below hb,d⟩⟩
theorem IAt.more {w:World} {B B':Nat} {A:Option Addr} {vs:List NV} {ns:List Gr.Ni} (h:IAt w B A vs ns) (hB:B<=B'):IAt w B' A vs ns:=
 ⟨h.row.more hB,h.len,h.kind,fun j h1 h2=>let⟨a,b,c,d⟩:=h.nums j h1 h2;⟨a.more hB,b,c.more hB,d⟩⟩
theorem IAt.toG {w:World} {B:Nat} {A:Option Addr} {vs:List NV} {ns:List Gr.Ni} (h:IAt w B A vs ns) (h0:∀x∈ns,∀y∈x.keys++x.items,0<=y):GAt w B A vs (ns.map Gr.Ni.nd):=by
 refine⟨h.row,by simp[h.len],fun j h1 h2=>?_,fun j h1 h2=>?_⟩
 ·rw[List.length_map]at h2;rw[List.getElem_map];exact h.kind j h1 h2
 ·rw[List.length_map]at h2;rw[List.getElem_map];obtain⟨a,b,c,d⟩:=h.nums j h1 h2;have hm:=h0 _ (List.getElem_mem h2);exact⟨zik a (fun y hy=>hm y (List.mem_append_left _ hy)),by rw[b];simp[Gr.Ni.nd],zik c (fun y hy=>hm y (List.mem_append_right _ hy)),by rw[d];simp[Gr.Ni.nd]⟩
theorem zff {is:List Gr.Ni} (h:is.all (rng is.length)=true):(∀x∈is,∀y∈x.keys++x.items,0<=y)/\Refs (is.map Gr.Ni.nd):=by
 have h1:∀x∈is,∀y∈x.keys++x.items,0<=y/\y<(is.length:Int):=by
  intro x hx y hy;have:=List.all_eq_true.1 (List.all_eq_true.1 h x hx) y hy;simpa[inR]using this
 refine⟨fun x hx y hy=>(h1 x hx y hy).1,fun x hx r hr=>?_⟩;obtain⟨y,hy,rfl⟩:=List.mem_map.1 hx;rw[List.length_map];rw[Gr.Ni.nd,<-List.map_append]at hr;obtain⟨z,hz,rfl⟩:=List.mem_map.1 hr;have:=h1 y hy z hz;omega
theorem IAt.node {w:World} {B:Nat} {A:Option Addr} {vs:List NV} {ns:List Gr.Ni} (h:IAt w B A vs ns) {j:Nat} (hj:j<ns.length):∃(ad:Addr) (k i:SV),A=some ad/\ad.block<B/\w.cell? (ad.add (j*5))=some (.int .i64 ns[j].kind)/\w.cell? {block:=(ad.add (j*5)).block,off:=(ad.add (j*5)).off+1}=some (.string ⟨ns[j].text.toArray⟩)/\w.cell? {block:=(ad.add (j*5)).block,off:=(ad.add (j*5)).off+2}=some (.bool ns[j].ord)/\
 w.cell? {block:=(ad.add (j*5)).block,off:=(ad.add (j*5)).off+3}=some (.slice k.a k.n k.c)/\w.cell? {block:=(ad.add (j*5)).block,off:=(ad.add (j*5)).off+4}=some (.slice i.a i.n i.c)/\RowAt intI w B k.a ns[j].keys/\k.n=ns[j].keys.length/\RowAt intI w B i.a ns[j].items/\i.n=ns[j].items.length:=by
 have hv:j<vs.length:=by rw[h.len];exact hj
 obtain⟨ad,h1,h2,c0,c1,c2,c3,c4⟩:=zk6 h.row hv;obtain⟨k0,k1,k2⟩:=h.kind j hv hj;obtain⟨n1,n2,n3,n4⟩:=h.nums j hv hj;rw[k0]at c0;rw[k1]at c1;rw[k2]at c2;exact⟨ad,vs[j].k,vs[j].i,h1,h2,c0,c1,c2,c3,c4,n1,n2,n3,n4⟩
theorem zd6 {α:Type} (f:α->Bool) (l:List α) (k:Nat) (h:k<l.length):(l.take (k+1)).all f=((l.take k).all f && f l[k]):=by
 rw[List.take_succ_eq_append_getElem h,List.all_append];simp
theorem zd7 (A:Option Addr) (c:Nat) (root:Int) (vs:List NV) (ns:List Gr.Ni) (hl:ns.length<=1073741823) (hks:∀n∈ns,n.keys.length<=1073741823/\n.items.length<=1073741823) (w:World) (h:IAt w w.heap.size A vs ns):
 Calls prog 33 #[.agg #[.slice A ns.length c,.int .i64 root]] w fun e w'=>e=.returned (.bool (indB ns root))/\Below w.heap.size w w':=by
 have H:=hid h;obtain⟨b0,hb0⟩:=ex (inR ns.length root)
 have HB0:=hid hb0;unfold inR at hb0;clear h;go_enter func33,ntmps33;go_upto_region 1 with fail;go_cut [3] (fun s3 wx=>s3=.bool b0/\∃w1,w1=wx/\w1=w.alloc (.cells #[.slice A ns.length c,.int .i64 root] 24))
 case first=>
  by_cases h1:0<=root
  ·by_cases h2:root<(ns.length:Int)
   ·obtain rfl:b0=true:=by rw[<-hb0];simp[h1,h2]
    clear hb0 HB0;go_wp2;go_meet;exact⟨rfl,_,rfl,rfl⟩
   ·obtain rfl:b0=false:=by rw[<-hb0];simp[h2]
    clear hb0 HB0;go_wp2;go_meet;exact⟨rfl,_,rfl,rfl⟩
  ·obtain rfl:b0=false:=by rw[<-hb0];simp[h1]
   clear hb0 HB0;go_wp2;go_meet;exact⟨rfl,_,rfl,rfl⟩
 case rest=>
  obtain⟨rfl,w1,rfl,hwx⟩:=hcut;have l1:Below w.heap.size w w1:=by rw[hwx];exact(Below.refl _ _).alloc (Nat.le_refl _) _
  have b1:Blk w1 w.heap.size 24 #[.slice A ns.length c,.int .i64 root]:=by rw[hwx];exact Blk.new _ _ _
  have g0:w1.cell? ⟨w.heap.size,0,none⟩=some (.slice A ns.length c):=b1.cell 0;obtain⟨gb,hgb⟩:=ex w.heap.size
  have HGB:=hid hgb;have L1:=hid l1;have HB1:=hid b1;have H1:=hid (H.out.below l1);rw[hgb]at g0 HB1 H1;(try rw[hgb]);have HW1:Hid (gb<w1.heap.size):=hid HB1.out.lt;clear hwx l1 b1 hgb hb0;go_upto_region 3 with fail;clear g0;go_loopw [3,24] (fun s3 s24 wr=>∃(j:Nat) (b:Bool),j<=ns.length/\s24=.int .i64 j/\s3=.bool b/\Hid (b=(b0 && (ns.take j).all (rng ns.length))/\Below w1.heap.size w1 wr)) (fun _ s24 _=>ns.length-(intOf s24).toNat)
  case atStart=>exact⟨0,b0,by omega,rfl,rfl,hid ⟨by simp,Below.refl _ _⟩⟩
  case round=>
   obtain⟨j,b,hj,rfl,rfl,HW⟩:=hrel;obtain⟨wq,hwq⟩:∃wq,wq=wr:=⟨_,rfl⟩
   subst hwq;by_cases hlt:j<ns.length
   ·have hltI:(j:Int)<(ns.length:Int):=by omega
    obtain⟨ad,ks,is,rfl,hadb,c0,c1,c2,c3,c4,r1,r2,r3,r4⟩:=(H1.out.below (HW.out.2.mono (by have:=HW1.out;omega))).node hlt;obtain⟨ka,kn,kc⟩:=ks;obtain⟨ia,inn,ic⟩:=is;have hnm:ns[j]∈ns:=List.getElem_mem hlt;obtain⟨hkl,hil⟩:=hks _ hnm;have HTK:Hid ((ns.take (j+1)).all (rng ns.length)=((ns.take j).all (rng ns.length) && (ns[j].keys++ns[j].items).all (inR ns.length))):=hid (by rw[zd6 _ _ _ hlt];rfl);obtain⟨n,hn⟩:=ex (ns[j])
    rw[hn]at c0 c1 c2 r1 r2 r3 r4 hkl hil HTK;obtain rfl:kn=n.keys.length:=r2;obtain rfl:inn=n.items.length:=r4;have g0:wq.cell? ⟨gb,0,none⟩=some (.slice (some ad) ns.length c):=(HB1.out.below HW.out.2 HW1.out).cell 0;have HR13:=hid (And.intro r1 r3);have HWQ:Hid (gb<wq.heap.size/\w1.heap.size<=wq.heap.size):=hid ⟨by have:=HW.out.2.size;have:=HW1.out;omega,HW.out.2.size⟩;clear r1 r3 hnm hn hadb;go_upto_region 5 with fail;obtain⟨w5,hw5⟩:=ex (wq.alloc (.cells #[.int .i64 n.kind,.string ⟨n.text.toArray⟩,.bool n.ord,.slice ka n.keys.length kc,.slice ia n.items.length ic] 35))
    have b5:Blk w5 wq.heap.size 35 #[.int .i64 n.kind,.string ⟨n.text.toArray⟩,.bool n.ord,.slice ka n.keys.length kc,.slice ia n.items.length ic]:=by rw[<-hw5];exact Blk.new _ _ _
    have l5:Below wq.heap.size wq w5:=by rw[<-hw5];exact(Below.refl _ _).alloc (Nat.le_refl _) _
    have s3:w5.cell? ⟨wq.heap.size,3,none⟩=some (.slice ka n.keys.length kc):=b5.cell 3;have s4:w5.cell? ⟨wq.heap.size,4,none⟩=some (.slice ia n.items.length ic):=b5.cell 4;(try rw[hw5]);have L5:=hid l5;clear hw5 b5 l5 c0 c1 c2 c3 c4 g0;go_upto_region 6 with fail;obtain⟨w6,hw6⟩:=ex (w5.alloc (.cells #[.slice ka n.keys.length kc,.slice ia n.items.length ic] 33))
    have b6:Blk w6 w5.heap.size 33 #[.slice ka n.keys.length kc,.slice ia n.items.length ic]:=by rw[<-hw6];exact Blk.new _ _ _
    have l6:Below wq.heap.size wq w6:=by rw[<-hw6];exact L5.out.alloc L5.out.size _
    (try rw[hw6]);have HB6:=hid b6;have g0:w6.cell? ⟨gb,0,none⟩=some (.slice (some ad) ns.length c):=((HB1.out.below HW.out.2 HW1.out).below l6 HWQ.out.1).cell 0;have HR6:Hid (RowAt intI w6 gb ka n.keys/\RowAt intI w6 gb ia n.items):=hid ⟨HR13.out.1.below (l6.mono (by have:=HWQ.out;omega)),HR13.out.2.below (l6.mono (by have:=HWQ.out;omega))⟩;have L6:Hid (Below w1.heap.size w1 w6):=hid (HW.out.2.trans (l6.mono HWQ.out.2));clear hw6 b6 l6 s3 s4;go_loop [3,34] (fun s3 s34=>∃(r:Nat) (b2:Bool),r<=2/\s34=.int .i64 r/\s3=.bool b2/\Hid (b2=(b && (if r=0 then[]else if r=1 then n.keys else n.keys++n.items).all (inR ns.length)))) (fun _ s34=>2-(intOf s34).toNat)
    case atStart=>exact⟨0,b,by omega,rfl,rfl,hid (by simp)⟩
    case round=>
     obtain⟨r,b2,hr2,rfl,rfl,HR⟩:=hrel;by_cases hrl:r<2
     ·have hrlI:(r:Int)<2:=by omega
      obtain⟨Ax,Lx,cx,e1,HX⟩:∃Ax Lx cx,w6.cell? ⟨w5.heap.size,r,none⟩=some (.slice Ax (Lx:List Int).length cx)/\Hid (RowAt intI w6 gb Ax Lx/\(if r+1=0 then[]else if r+1=1 then n.keys else n.keys++n.items)=(if r=0 then[]else if r=1 then n.keys else n.keys++n.items)++Lx/\Lx.length<=1073741823):=by
       obtain rfl|rfl:r=0\/r=1:=by omega
       ·exact⟨ka,n.keys,kc,HB6.out.cell 0,hid ⟨HR6.out.1,by simp,hkl⟩⟩
       ·exact⟨ia,n.items,ic,HB6.out.cell 1,hid ⟨HR6.out.2,by simp,hil⟩⟩
      have hxl:=HX.out.2.2;go_upto_region 9 with fail;clear e1;go_loop [3,40] (fun s3 s40=>∃(y:Nat) (b3:Bool),y<=Lx.length/\s40=.int .i64 y/\s3=.bool b3/\Hid (b3=(b2 && (Lx.take y).all (inR ns.length)))) (fun _ s40=>Lx.length-(intOf s40).toNat)
      case atStart=>exact⟨0,b2,by omega,rfl,rfl,hid (by simp)⟩
      case round=>
       obtain⟨y,b3,hy,rfl,rfl,HY⟩:=hrel;by_cases hyl:y<Lx.length
       ·have hylI:(y:Int)<(Lx.length:Int):=by omega
        obtain⟨x,hx⟩:=ex (Lx[y])
        obtain⟨adx,rfl,hadx,y0⟩:=zhk HX.out.1 hyl;rw[hx]at y0;have HTX:Hid ((Lx.take (y+1)).all (inR ns.length)=((Lx.take y).all (inR ns.length) && (decide (0<=x) && decide (x<(ns.length:Int))))):=hid (by rw[zd6 _ _ _ hyl,hx];rfl);clear hx;cases b3 with
        |false=>
         have HN:Hid (false=(b2 && (Lx.take (y+1)).all (inR ns.length))):=hid (by rw[HTX.out,<-Bool.and_assoc,<-HY.out];rfl);clear HY;go_wp2;go_round
         case rel=>exact⟨y+1,false,by omega,by go_num,rfl,HN⟩
         case measure=>simp[intOf];omega
        |true=>
         by_cases h1:0<=x
         ·by_cases h2:x<(ns.length:Int)
          ·have HN:Hid (true=(b2 && (Lx.take (y+1)).all (inR ns.length))):=hid (by rw[HTX.out,<-Bool.and_assoc,<-HY.out];simp[h1,h2]);clear HY;go_wp2;go_round
           case rel=>exact⟨y+1,true,by omega,by go_num,rfl,HN⟩
           case measure=>simp[intOf];omega
          ·have HN:Hid (false=(b2 && (Lx.take (y+1)).all (inR ns.length))):=hid (by rw[HTX.out,<-Bool.and_assoc,<-HY.out];simp[h2]);clear HY;go_wp2;go_round
           case rel=>exact⟨y+1,false,by omega,by go_num,rfl,HN⟩
           case measure=>simp[intOf];omega
         ·have HN:Hid (false=(b2 && (Lx.take (y+1)).all (inR ns.length))):=hid (by rw[HTX.out,<-Bool.and_assoc,<-HY.out];simp[h1]);clear HY;go_wp2;go_round
          case rel=>exact⟨y+1,false,by omega,by go_num,rfl,HN⟩
          case measure=>simp[intOf];omega
       ·have hylI:¬(y:Int)<(Lx.length:Int):=by omega
        have HN:Hid (b3=(b && (if r+1=0 then[]else if r+1=1 then n.keys else n.keys++n.items).all (inR ns.length))):=hid (by
         rw[HX.out.2.1,List.all_append,<-Bool.and_assoc,<-HR.out];have:=HY.out;rwa[show y=Lx.length from by omega,List.take_length]at this)
        go_wp2;go_round
        case rel=>exact⟨r+1,b3,by omega,by go_num,rfl,HN⟩
        case measure=>simp[intOf];omega
     ·have hrlI:¬(r:Int)<2:=by omega
      have HN:Hid (b2=(b0 && (ns.take (j+1)).all (rng ns.length))/\Below w1.heap.size w1 w6):=hid ⟨by
       have:=HR.out;rw[show r=2 from by omega]at this;rw[HTK.out,<-Bool.and_assoc,<-HW.out.1];exact this,L6.out⟩
      go_wp2;go_roundw
      case rel=>exact⟨j+1,b2,by omega,by go_num,rfl,HN⟩
      case measure=>simp[intOf];omega
   ·have hltI:¬(j:Int)<(ns.length:Int):=by omega
    have HRES:Hid (indB ns root=b/\Below w.heap.size w wq):=hid ⟨by
     have:=HW.out.1;rw[show j=ns.length from by omega,List.take_length]at this;unfold indB;rw[HB0.out,this],L1.out.trans (HW.out.2.mono L1.out.size)⟩
    go_wp2;go_ret;rw[HRES.out.1];exact⟨rfl,HRES.out.2⟩
def zbu (o:Option Gr.Dn) (w:World) (e:Ending) (w':World):Prop:=∃x v,e=.returned (.tuple #[v,.bool o.isSome])/\NumI x v w.heap.size w'/\(∀y,o=some y->x=y)/\Below w.heap.size w w'
theorem znp (s:Gr.Str) (_hl:s.length<=268435455) (w wc:World) (gb n c t2:Nat) (A:Option Addr) (neg:Bool) (ev2:Int) (ds:List Nat) (r:Option Gr.Dn) (HGB:Hid (w.heap.size=gb))
 (HT:Hid (n=ds.length/\ds.length<=536870911/\(∀v∈ds,v<10))) (HE2:Hid (t2<=s.length/\-1152921504606846976<=ev2/\ev2<=1152921504606846976/\r=if t2=s.length then some (Gr.norm neg ds ev2)else none)) (HO2:Hid (OwnRow intL wc (gb+1) 3 (.slice A n c) ds)) (HB2:Hid (Blk wc gb 69 #[.bool false,.slice none 0 0,.int .i64 0]/\Below gb w wc))
 {u1 u3 u7 u9 u10 u11 u12 u13 u14 u15 u16 u17 u18 u19 u20 u21 u22 u23 u24 u25 u26 u27 u28 u29 u30 u31 u32 u33 u34 u35 u36 u37 u38 u39 u40 u41 u42 u43 u44 u45 u46 u47 u48 u49 u50 u51 u52 u53 u54 u55 u56 u57 u58 u59 u60 u61 u62 u63 u64 u65 u66 u67 u68 u69 u70 u71 u72 u73 u74 u75 u76 u77 u78 u79 u80 u81 u82 u83 u84 u85 u86 u87 u88 u89 u90 u91 u92 u93 u94 u95 u96 u97 u98 u99 u100 u101 u102 u103 u104 u105 u106 u107 u108 u109 u110 u111 u112 u113 u114 u115 u116 u117 u118 u119 u120 u121 u122 u123 u124 u125 u126 u127 u128 u129 u130 u131 u132 u133 u134 u135 u136 u137 u138 u139 u140 u141 u142 u143 u144 u145 u146 u147 u148 u149 u150 u151 u152 u153 u154:Value}:
 Code.wp prog (tl 10 (f75.body.getD .skip)) (bodyPost prog f75 (zbu r w)) {tmps:=List.toArray (.string ⟨s.toArray⟩::u1::.pointer (some ⟨gb,0,none⟩)::u3::.int .i64 (t2:Int)::.bool neg::.slice A n c::u7::.int .i64 ev2::u9::u10::u11::u12::u13::u14::u15::u16::u17::u18::u19::u20::u21::u22::u23::u24::u25::u26::u27::u28::u29::u30::u31::u32::u33::u34::u35::u36::u37::u38::u39::u40::u41::u42::u43::u44::u45::u46::u47::u48::u49::u50::u51::u52::u53::u54::u55::u56::u57::u58::u59::u60::u61::u62::u63::u64::u65::u66::u67::u68::u69::u70::u71::u72::u73::u74::u75::u76::u77::u78::u79::u80::u81::u82::u83::u84::u85::u86::u87::u88::u89::u90::u91::u92::u93::u94::u95::u96::u97::u98::u99::u100::u101::u102::u103::u104::u105::u106::u107::u108::u109::u110::u111::u112::u113::u114::u115::u116::u117::u118::u119::u120::u121::u122::u123::u124::u125::u126::u127::u128::u129::u130::u131::u132::u133::u134::u135::u136::u137::u138::u139::u140::u141::u142::u143::u144::u145::u146::u147::u148::u149::u150::u151::u152::u153::u154::[]),defers:=[]} wc:=by
 generalize hc0:tl 10 (f75.body.getD .skip)=c0;simp only[tl,f75,Option.getD_some]at hc0;subst hc0;have hrw:=HO2.out.form;have hnl:n=ds.length:=HT.out.1;have HNO:Hid (∀W,Below wc.heap.size wc W->W=wc->Calls prog 98 #[.bool neg,.slice A n c,.int .i64 ev2] W (zej (Gr.norm neg ds ev2) W)):=Lib.hid (fun W _ hW=>by
  subst hW;obtain⟨A',c',hv,hrow⟩:=HO2.out.form;rw[hnl]at hv ⊢;injection hv with e1 e2 e3
  subst e1;exact znm neg A c ds ev2 (by have:=HT.out.2.1;omega) HE2.out.2.1 HE2.out.2.2.1 HT.out.2.2 W hrow)
 have HE3:=Lib.hid HE2.out.2.2.2;have ht2s:t2<=s.length:=HE2.out.1;obtain⟨full,hfull⟩:=ex (decide (t2=s.length))
 have hfb:((t2:Int)==(s.length:Int))=full:=by
  rw[<-hfull,Bool.eq_iff_iff];simp;omega
 have hfb2:(t2==s.length)=full:=by
  rw[<-hfull,Bool.eq_iff_iff];simp
 have HFU:=Lib.hid hfull;clear hrw hnl hfull HT HE2;go_wp2_with fail;refine(HNO.out wc (Below.refl _ _) rfl).mono ?_;rintro e w5 ⟨v,rfl,⟨A5,c5,rfl,ho5⟩,hb5⟩;have HB5:Hid (Blk w5 gb 69 #[.bool false,.slice none 0 0,.int .i64 0]/\Below gb w w5):=Lib.hid ⟨HB2.out.1.below hb5 HB2.out.1.lt,HB2.out.2.trans (hb5.mono (Nat.le_of_lt HB2.out.1.lt))⟩;have HO5:=Lib.hid (ho5.lower (show gb+1<=wc.heap.size from HB2.out.1.lt));have p0:∀j,w5.frozen? ⟨gb,j,none⟩=false:=HB5.out.1.frozen;obtain⟨q0,q1,q2⟩:=cells3 HB5.out.1;obtain⟨x,hx⟩:=ex (Gr.norm neg ds ev2)
 rw[hx]at HO5 HE3 ⊢;clear hx ho5 hb5;go_wp2_with fail;have hb3:=((HB5.out.1.set_ 0 (.bool x.neg)).set_ 1 (.slice A5 x.d.length c5)).set_ 2 (.int .i64 x.e);have e0:=hb3.cell 0;have e1:=hb3.cell 1;have e2:=hb3.cell 2;refine bodyPost_ret (v:=.tuple #[.agg #[.bool x.neg,.slice A5 x.d.length c5,.int .i64 x.e],.bool full]) (by rw[results_cell_tmp rfl];go_simp) rfl ?_;have hrs:r.isSome=full:=by
  rw[HE3.out,<-HFU.out];by_cases h:t2=s.length
  ·rw[if_pos h];simp[h]
  ·rw[if_neg h];simp[h]
 unfold zbu;rw[HGB.out,hrs];have ho3:=((HO5.out.setCell (p:=⟨gb,0,none⟩) (fun e=>absurd (HO5.out.lt _ e).1 (by simp)) (.bool x.neg)).setCell (p:=⟨gb,1,none⟩) (fun e=>absurd (HO5.out.lt _ e).1 (by simp)) (.slice A5 x.d.length c5)).setCell (p:=⟨gb,2,none⟩) (fun e=>absurd (HO5.out.lt _ e).1 (by simp)) (.int .i64 x.e);refine⟨x,_,rfl,⟨A5,c5,rfl,ho3.lower (by omega)⟩,fun y hy=>?_,((HB5.out.2.setCell (p:=⟨gb,0,none⟩) (by simp) _).setCell (p:=⟨gb,1,none⟩) (by simp) _).setCell (p:=⟨gb,2,none⟩) (by simp) _⟩;rw[HE3.out]at hy;split at hy
 ·injection hy
 ·cases hy
end Go.Proofs.YtoigpackhninoaaGreatDoor

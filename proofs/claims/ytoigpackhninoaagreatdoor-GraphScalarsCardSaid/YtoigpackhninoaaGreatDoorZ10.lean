/- Walks: depth. Walks: indices; graphs whose references are any integers. A map of slices of ints, keyed by steps (two cells: an int and a string), of the call's own. -/
import Derived.Test.YtoigpackhninoaaGreatDoorZ09
import Derived.Laws.StructEq
import Derived.MapKept
namespace Go.Proofs.YtoigpackhninoaaGreatDoor
set_option maxRecDepth 100000
set_option maxHeartbeats 16000000
open Go.RowKit
structure DepF (w:World) (gb rC rB:Nat) (A Az:Option Addr) (c:Nat) (root:Int) (vs:List NV) (ns:List Gr.Nd) (inn:List Int) (sizes:List Nat):Prop where
 bg:Blk w gb 24 #[.slice A ns.length c,.int .i64 root]
 lg:gb<rB
 bc:Blk w rC 3 (jcells inn)
 lc:rC<rB
 rz:RowAt intL w rB Az sizes
 at_:GAt w rB A vs ns
theorem DepF.below {w w':World} {gb rC rB:Nat} {A Az:Option Addr} {c:Nat} {root:Int} {vs:List NV} {ns:List Gr.Nd} {inn:List Int} {sizes:List Nat} (h:DepF w gb rC rB A Az c root vs ns inn sizes) (hb:Below rB w w'):DepF w' gb rC rB A Az c root vs ns inn sizes:=
 ⟨h.bg.below hb h.lg,h.lg,h.bc.below hb h.lc,h.lc,h.rz.below hb,h.at_.below hb⟩
theorem cn_eq (t:Gr.TS) (v:Nat):t.cn v=t.inn.getD v (-1):=rfl
theorem depth_any (A:Option Addr) (c root:Nat) (vs:List NV) (ns:List Gr.Nd) (hr:Gr.Refs ns) (hl:ns.length<=1073741823) (hks:∀n∈ns,n.keys.length<=1073741823/\n.items.length<=1073741823) (hroot:root<ns.length)
 (hall:∀v,v<ns.length->Gr.Reach (Gr.succ ns) root v) (w:World) (h:GAt w w.heap.size A vs ns):
 Calls Tryz.prog 39 #[.agg #[.slice A ns.length c,.int .i64 root]] w fun e w'=>e=.returned (.tuple #[.int .i64 (Gr.depth ns root).1,.bool (Gr.depth ns root).2])/\Below w.heap.size w w':=by
 obtain⟨hC,hCl,hCz⟩:=Gr.tcomp_ok hr.succ root hroot hall;have HC:=Lib.hid hC;have H:=Lib.hid h;have HCOMP:=Lib.hid (fun W hW=>components_any A c root vs ns hr hl hks hroot W (h.below hW|>.more hW.size));obtain⟨t,ht⟩:∃t,Gr.tcomp (Gr.succ ns) ns.length root=t:=⟨_,rfl⟩
 rw[ht]at hCl hCz HC;have HT:=Lib.hid ht;obtain⟨m,hm⟩:∃m,t.sizes.length=m:=⟨_,rfl⟩
 have HM:=Lib.hid hm;rw[hm]at hCz;have hml:m<=1073741823:=by omega
 have hmk:=fun W=>make_ints m (by omega) W
 have hms:=fun W=>make_slices m (by omega) W
 have hrI:(root:Int)<(ns.length:Int):=by omega
 have HCL:=Lib.hid hCl;have HCZ:=Lib.hid hCz;clear h hC ht hm hCl hCz;go_enter Tryz.func39,Tryz.ntmps39;go_upto_region 1 with fail;obtain⟨w1,hw1⟩:∃w1,w.alloc (.cells #[.slice A ns.length c,.int .i64 root] 24)=w1:=⟨_,rfl⟩
 (try rw[hw1]);have l1:Below w.heap.size w w1:=by rw[<-hw1];exact(Below.refl _ _).alloc (Nat.le_refl _) _
 have b1:Blk w1 w.heap.size 24 #[.slice A ns.length c,.int .i64 root]:=by rw[<-hw1];exact Blk.new _ _ _
 obtain⟨gb,hgb⟩:∃gb,w.heap.size=gb:=⟨_,rfl⟩
 have HGB:=Lib.hid hgb;have L1:=Lib.hid l1;(try rw[hgb]);rw[hgb]at b1;have HB1:=Lib.hid b1;obtain⟨g0,g1⟩:=cells2 b1;have HCW:=Lib.hid (HCOMP.out w1 l1);clear hw1 hgb l1 b1;go_wp2_with fail;refine HCW.out.mono ?_;rintro e w2 ⟨rC,Az,cz,rfl,h1,h2,h3,h4⟩;rw[HT.out]at h3 h4 ⊢;rw[HM.out]at h4 ⊢;obtain⟨Az',cz',hAz,hrz⟩:=h4.form;rw[HM.out]at hAz;injection hAz with e1 _ e2
 subst e1;subst e2;obtain⟨rB,hrB⟩:∃rB,w2.heap.size=rB:=⟨_,rfl⟩
 have hlo:gb<rB:=by have:=h2.size;have:=HB1.out.lt;omega
 have HF2:Hid (DepF w2 gb rC rB A Az c root vs ns t.inn t.sizes):=Lib.hid ⟨HB1.out.below h2 HB1.out.lt,hlo,h3,by have:=h3.lt;omega,by rw[<-hrB];exact hrz,(H.out.below (L1.out.trans (h2.mono (by have:=L1.out.size;omega)))).more (by have:=HGB.out;omega)⟩;have HL2:Hid (Below w.heap.size w w2):=Lib.hid (L1.out.trans (h2.mono L1.out.size));clear h1 h2 h3 h4 g0 g1 hrz;go_upto_region 5 with fail;obtain⟨w4,hw4⟩:∃w4,(w2.alloc (.cells (icells (List.replicate m 0)) 3)).alloc (.cells (Array.replicate m (Value.slice none 0 0)) 33)=w4:=⟨_,rfl⟩
 have l4:Below rB w2 w4:=by rw[<-hw4,<-hrB];exact((Below.refl _ _).alloc (Nat.le_refl _) _).alloc (by simp) _
 have hs4:w4.heap.size=rB+1+1:=by rw[<-hw4];simp[hrB]
 have b4:Blk w4 rB 3 (icells (List.replicate m 0)):=by rw[<-hw4,<-hrB];exact(Blk.new _ _ _).alloc _
 have m4:Blk w4 (rB+1) 33 (Array.replicate m (Value.slice none 0 0)):=by
  rw[<-hw4,<-hrB];have:=Blk.new (w2.alloc (.cells (icells (List.replicate m 0)) 3)) 33 (Array.replicate m (Value.slice none 0 0));rw[World.size_alloc]at this;exact this
 obtain⟨rM,hrM⟩:∃rM,rB+1=rM:=⟨_,rfl⟩
 rw[hrM]at m4 hs4;obtain⟨D,hD⟩:∃D,rM+1=D:=⟨_,rfl⟩
 rw[hD]at hs4;have HLO:Hid (gb<rB/\rB<rM/\rM<D/\w4.heap.size=D/\w.heap.size=gb):=Lib.hid ⟨hlo,by omega,by omega,hs4,HGB.out⟩;have HF4:=Lib.hid (HF2.out.below l4);have HL4:Hid (Below w.heap.size w w4):=Lib.hid (HL2.out.trans (l4.mono (by rw[HGB.out];omega)));have HB4:=Lib.hid b4;have HME:Hid (Mems w4 D rM (List.replicate m (.slice none 0 0)) (List.replicate m [])):=Lib.hid (Mems.start (by simpa using m4) (by omega) (by omega));rw[hrM,hw4];have hci:=fun v (hv:v<ns.length)=>HC.out.rng v hv
 have HCI:=Lib.hid hci;clear hw4 hrB l4 hs4 b4 m4 hrM hD hlo hci hmk hms;go_upto_region 6 with fail;go_loopw [31] (fun s31 wr=>∃i:Nat,i<=ns.length/\s31=.int .i64 i/\Hid (KB rM w4 wr/\∃mv,Mems wr D rM mv (memsL t.cn i m))) (fun s31 _=>ns.length-(intOf s31).toNat)
 case atStart=>exact⟨0,by omega,rfl,Lib.hid ⟨KB.refl _ _,_,by rw[memsL_zero];exact HME.out⟩⟩
 case round=>
  obtain⟨i,hi,rfl,HW⟩:=hrel;by_cases hlt:i<ns.length
  ·have hltI:(i:Int)<(ns.length:Int):=by omega
   obtain⟨hk,mv,hM⟩:=HW.out;obtain⟨hc0,hc1⟩:=HCI.out i hlt;obtain⟨cc,hcc⟩:∃cc:Nat,t.cn i=(cc:Int):=⟨(t.cn i).toNat,by omega⟩
   rw[hcc,HM.out]at hc1;have hccm:cc<m:=by omega
   have hccI:(cc:Int)<(m:Int):=by omega
   have hmv:cc<mv.length:=by rw[hM.len,memsL_len];exact hccm
   have y0:wr.cell? ⟨rC,i,none⟩=some (.int .i64 (cc:Int)):=by
    have:=((HF4.out.below (hk.below (by have:=HLO.out;omega) (by have:=HLO.out;omega))).bc).cell i;rw[this,jcells_get (by rw[HCL.out];exact hlt),<-cn_eq,hcc]
   have hc2:cc<(memsL t.cn i m).length:=by rw[memsL_len];exact hccm
   obtain⟨Ac,capc,hme,z0,hra⟩:=hM.at_ hc2;have hov:=hM.own cc hmv hc2;have hmvc:mv[cc]=.slice Ac (memsL t.cn i m)[cc].length capc:=by
    have h1:=hM.blk.cell cc;rw[z0]at h1;simpa[List.getElem?_eq_getElem hmv]using h1.symm
   rw[memsL_get]at z0 hov hmvc;clear hra hme hc2;have hml2:=members_len t.cn i cc;obtain⟨L,hL⟩:∃L,Gr.members t.cn i cc=L:=⟨_,rfl⟩
   rw[hL]at z0 hov hml2 hmvc;rw[hmvc]at hov;have HLL:Hid (memsL t.cn (i+1) m=(memsL t.cn i m).set cc (L++[i])):=Lib.hid (by rw[memsL_succ _ _ _ _ hcc,hL]);have zf:∀j,wr.frozen? ⟨rM,j,none⟩=false:=hM.blk.frozen;have HOV:=Lib.hid hov;have HMM:Hid (∃hmv:cc<mv.length,KB rM w4 wr/\Mems wr D rM mv (memsL t.cn i m)/\mv[cc]=.slice Ac L.length capc):=Lib.hid ⟨hmv,hk,hM,hmvc⟩;have HLH:Hid (D<=wr.heap.size/\L.length+1<=1073741823):=Lib.hid ⟨hM.hd,by omega⟩;clear hk hM hc0 hc1 hcc hmv hov hmvc hml2 hL;go_upto_region 8 with fail;clear y0;go_wp2_with (at_builtin;go_must (refine wpList_append_row _ rfl (.tmp 41) (.tmp 43) 33 3 8 rfl intT D (.slice Ac L.length capc) L rfl (HOV.out.alloc _) _ _ 1 [i] rfl (RowAt.lit1 _ _ rfl _ ?_) ?_ ?_ ?_))
   any_goals (first|rfl| (have:=HLH.out;omega)| (have:=HLH.out;simp;omega)| (rw[World.size_alloc];have:=HLH.out;omega))
   intro v' w3 hown hg hat;obtain⟨hmv,hk,hM,hmvc⟩:=HMM.out;have hMa:=hM.alloc (.cells #[.int .i64 i] 3);rw[<-hmvc]at hg hat;have hM2:=hMa.grown hmv hown hg (by rw[World.size_alloc];exact hat);have hk2:=hMa.grownKB (hk.alloc _) HLO.out.2.2.2.1 hmv v' hg;have hb3:Blk w3 rM 33 mv.toArray:=hMa.blk.grown hg (fun e=>by have:=((hMa.own cc hmv (by rw[memsL_len];omega)).lt rM e.symm).1;have:=HLO.out;omega);have pc3:w3.cell? ⟨rM,cc,none⟩=some mv[cc]:=by rw[hb3.cell];simp[List.getElem?_eq_getElem hmv]
   rw[hmvc]at pc3;have pf3:∀j,w3.frozen? ⟨rM,j,none⟩=false:=hb3.frozen;obtain⟨g3,cap3,hv3,_⟩:=hown.shape (by simp);obtain⟨n3,hn3⟩:∃n3,(L++[i]).length=n3:=⟨_,rfl⟩
   rw[hn3]at hv3;subst hv3;have HNX:Hid (KB rM w4 (w3.setCell ⟨rM,cc,none⟩ (.slice (some ⟨g3,0,none⟩) n3 cap3))/\∃mv,Mems (w3.setCell ⟨rM,cc,none⟩ (.slice (some ⟨g3,0,none⟩) n3 cap3)) D rM mv (memsL t.cn (i+1) m)):=Lib.hid ⟨hk2,_,by rw[HLL.out];exact hM2⟩;clear hmvc hk hM hMa hown hg hat hM2 hk2 hb3 hn3 z0 zf hmv;go_wp2_with fail;go_roundw
   case rel=>exact⟨i+1,by omega,by go_num,HNX⟩
   case measure=>simp[intOf];omega
  ·have hltI:¬((i:Int)<(ns.length:Int)):=by omega
   have hie:i=ns.length:=by omega
   obtain⟨hk,mv,hM⟩:=HW.out;rw[hie]at hM;obtain⟨wl,hwl⟩:∃wl,wl=wr:=⟨_,rfl⟩
   subst hwl;have HML:Hid (Mems wl D rM mv (memsL t.cn ns.length m)):=Lib.hid hM;have HFL:Hid (DepF wl gb rC rB A Az c root vs ns t.inn t.sizes):=Lib.hid (HF4.out.below (hk.below (by have:=HLO.out;omega) (by have:=HLO.out;omega)));have HLL:Hid (Below w.heap.size w wl/\D<=wl.heap.size):=Lib.hid ⟨HL4.out.trans (hk.below (by have:=HLO.out;omega) (by have:=HLO.out;omega)),hM.hd⟩;have HBL:Hid (Blk wl rB 3 (icells (List.replicate m 0))):=Lib.hid (hk.blk HB4.out (by have:=HLO.out;omega));clear hk hM HW hie hi hlt;go_upto_region 11 with fail;clear hltI;go_loopw [6,49] (fun s6 s49 wr=>∃(k:Nat) (p:List Nat×Bool),k<=m/\s49=.int .i64 k/\s6=.bool p.2/\Hid (p=(List.range k).foldl (Gr.dcomp (Gr.succ ns) t.cn ns.length t.sizes) (List.replicate m 0,true)/\KB rB wl wr/\Blk wr rB 3 (icells p.1))) (fun _ s49 _=>m-(intOf s49).toNat)
   case atStart=>exact⟨0,(List.replicate m 0,true),by omega,rfl,rfl,Lib.hid ⟨rfl,KB.refl _ _,HBL.out⟩⟩
   case round=>
    obtain⟨k,p,hk,rfl,rfl,HW⟩:=hrel;obtain⟨wq,hwq⟩:∃wq,wq=wr:=⟨_,rfl⟩
    subst hwq;by_cases hlt:k<m
    ·have hltI:(k:Int)<(m:Int):=by omega
     have hM:=HML.out.kb HW.out.2.1 (by have:=HLO.out;omega) (by have:=HLO.out;omega);obtain⟨Ak,capk,hmv,z0,hrk⟩:=hM.at_ (c:=k) (by rw[memsL_len];exact hlt);clear hrk;rw[memsL_get]at z0 hmv;have HRK:Hid (∀W,KB rB wl W->RowAt intL W W.heap.size Ak (Gr.members t.cn ns.length k)):=Lib.hid (fun W hW=>by
      have:=(HML.out.kb hW (by have:=HLO.out;omega) (by have:=HLO.out;omega)).row (c:=k) (by rw[memsL_len];exact hlt) hmv;rwa[memsL_get]at this)
     clear hmv;have hML:=members_len t.cn ns.length k;have HLI:Hid (∀x∈Gr.members t.cn ns.length k,x<ns.length):=Lib.hid (members_lt t.cn ns.length k);have HDC:Hid (Gr.dcomp (Gr.succ ns) t.cn ns.length t.sizes p k=((((Gr.members t.cn ns.length k).foldl (fun p i=>(Gr.succ ns i).foldl (Gr.dstep t.cn k) p) p).1.set k (((Gr.members t.cn ns.length k).foldl (fun p i=>(Gr.succ ns i).foldl (Gr.dstep t.cn k) p) p).1.getD k 0+t.sizes.getD k 0)),((Gr.members t.cn ns.length k).foldl (fun p i=>(Gr.succ ns i).foldl (Gr.dstep t.cn k) p) p).2)):=Lib.hid rfl;obtain⟨Lk,hLk⟩:∃Lk,Gr.members t.cn ns.length k=Lk:=⟨_,rfl⟩
     rw[hLk]at z0 HRK hML HLI HDC;have hsN:∀j,t.sizes.getD j 0<=ns.length:=fun j=>by
      by_cases hj:j<t.sizes.length
      ·rw[HC.out.cnt j hj];exact Nat.le_trans List.countP_le_length (by simp)
      ·simp[List.getD_eq_getElem?_getD,List.getElem?_eq_none (Nat.le_of_not_lt hj)]
     have HSN:=Lib.hid hsN;have hpl:p.1.length=m:=by rw[HW.out.1,dcomps_len];simp
     have hsm:Sml (k*ns.length) p:=by
      rw[HW.out.1];refine Sml.comps (fun j=>?_) hsN k;simp[List.getD_eq_getElem?_getD,List.getElem?_replicate];split<;>simp
     obtain⟨M,hMM⟩:∃M,k*ns.length=M:=⟨_,rfl⟩
     rw[hMM]at hsm;have HMB:Hid (M<=1152921504606846976):=Lib.hid (by rw[<-hMM];exact Nat.le_trans (Nat.mul_le_mul (show k<=1073741824 by omega) (show ns.length<=1073741824 by omega)) (by decide));have HPL:=Lib.hid hpl;have HSM:=Lib.hid hsm;clear hM hLk hsN hpl hsm hMM;go_upto_region 14 with fail;clear z0;go_loopw [6,57] (fun s6 s57 wr=>∃(j:Nat) (q:List Nat×Bool),j<=Lk.length/\s57=.int .i64 j/\s6=.bool q.2/\Hid (q=(Lk.take j).foldl (fun p i=>(Gr.succ ns i).foldl (Gr.dstep t.cn k) p) p/\KB rB wl wr/\Blk wr rB 3 (icells q.1))) (fun _ s57 _=>Lk.length-(intOf s57).toNat)
     case atStart=>exact⟨0,p,by omega,rfl,rfl,Lib.hid ⟨rfl,HW.out.2.1,HW.out.2.2⟩⟩
     case round=>
      obtain⟨j,q,hj,rfl,rfl,HV⟩:=hrel;obtain⟨wv,hwv⟩:∃wv,wv=wr:=⟨_,rfl⟩
      subst hwv;by_cases hjl:j<Lk.length
      ·have hjlI:(j:Int)<(Lk.length:Int):=by omega
       obtain⟨i,hi⟩:∃i,Lk[j]=i:=⟨_,rfl⟩
       have hin:i<ns.length:=by rw[<-hi];exact HLI.out _ (List.getElem_mem hjl)
       obtain⟨adk,rfl,hadk,y0⟩:=int_at (HRK.out _ HV.out.2.1) hjl;rw[hi]at y0;have hFv:=HFL.out.below (HV.out.2.1.below (B:=rB) (Nat.le_refl _) (by have:=HLL.out;have:=HLO.out;omega));have g0:wv.cell? ⟨gb,0,none⟩=some (.slice A ns.length c):=hFv.bg.cell 0;obtain⟨ad,ks,is,rfl,hN⟩:=hFv.at_.node hin;obtain⟨ka,kn,kc⟩:=ks;obtain⟨ia,inn,ic⟩:=is;have hnm:ns[i]∈ns:=List.getElem_mem hin;obtain⟨hkl,hil⟩:=hks _ hnm;have hsc:Gr.succ ns i=ns[i].keys++ns[i].items:=by unfold Gr.succ;rw[List.getElem?_eq_getElem hin]
       have HRF:Hid (∀x∈ns[i].keys++ns[i].items,x<ns.length):=Lib.hid (hr _ hnm);obtain⟨n,hn⟩:∃n,ns[i]=n:=⟨_,rfl⟩
       rw[hn]at hN hkl hil hsc HRF;obtain rfl:kn=n.keys.length:=hN.kn;obtain rfl:inn=n.items.length:=hN.inn;have x3:=hN.c3;have x4:=hN.c4;have HTK:Hid ((Lk.take (j+1)).foldl (fun p i=>(Gr.succ ns i).foldl (Gr.dstep t.cn k) p) p=(n.keys++n.items).foldl (Gr.dstep t.cn k) q):=Lib.hid (by
        rw[take_snocN _ _ hjl,List.foldl_append,<-HV.out.1,hi,List.foldl_cons,List.foldl_nil,hsc])
       have HKI:Hid (RowAt intL wv rB ka n.keys/\RowAt intL wv rB ia n.items):=Lib.hid ⟨hN.keys,hN.items⟩;have hinI:(i:Int)<(ns.length:Int):=by omega
       clear hFv hN hnm hsc hn hi;go_upto_region 16 with fail;go_region_held3 (fun w'=>w'.cell? ⟨gb,0,none⟩=some (.slice (some ad) ns.length c)/\w'.cell? {block:=(ad.add (i*5)).block,off:=(ad.add (i*5)).off+3}=some (.slice ka n.keys.length kc)/\w'.cell? {block:=(ad.add (i*5)).block,off:=(ad.add (i*5)).off+4}=some (.slice ia n.items.length ic)) (go_keep) (fail);go_upto_region 17 with fail;clear x3 x4 g0 y0;obtain⟨w5,hw5⟩:∃w5,(wv.alloc (.cells #[.slice ka n.keys.length kc,.slice ia n.items.length ic] 33)).drew=w5:=⟨_,rfl⟩
       obtain⟨lb,hlb⟩:∃lb,wv.heap.size=lb:=⟨_,rfl⟩
       have b5:Blk w5 lb 33 #[.slice ka n.keys.length kc,.slice ia n.items.length ic]:=by rw[<-hw5,<-hlb];exact(Blk.new _ _ _).drew
       have k5:KB rB wv w5:=by rw[<-hw5];exact((KB.refl _ _).alloc _).drewN 1
       have HLB:Hid (rB<lb/\rB<=wv.heap.size):=Lib.hid ⟨by have:=HV.out.2.2.lt;omega,Nat.le_of_lt HV.out.2.2.lt⟩;have HB5:Hid (KB rB wl w5/\Blk w5 rB 3 (icells q.1)/\Blk w5 lb 33 #[.slice ka n.keys.length kc,.slice ia n.items.length ic]):=Lib.hid ⟨HV.out.2.1.trans k5,by rw[<-hw5];exact(HV.out.2.2.alloc _).drew,b5⟩;have HKI5:Hid (RowAt intL w5 rB ka n.keys/\RowAt intL w5 rB ia n.items):=Lib.hid ⟨HKI.out.1.below (k5.below (Nat.le_refl _) HLB.out.2),HKI.out.2.below (k5.below (Nat.le_refl _) HLB.out.2)⟩;rw[hw5,hlb];clear hw5 b5 k5 hlb;go_loopw [6,75] (fun s6 s75 wr=>∃(r:Nat) (q2:List Nat×Bool),r<=2/\s75=.int .i64 r/\s6=.bool q2.2/\Hid (q2=(if r=0 then[]else if r=1 then n.keys else n.keys++n.items).foldl (Gr.dstep t.cn k) q/\KB rB w5 wr/\Blk wr rB 3 (icells q2.1)/\Blk wr lb 33 #[.slice ka n.keys.length kc,.slice ia n.items.length ic])) (fun _ s75 _=>2-(intOf s75).toNat)
       case atStart=>exact⟨0,q,by omega,rfl,rfl,Lib.hid ⟨rfl,KB.refl _ _,HB5.out.2⟩⟩
       case round=>
        obtain⟨r,q2,hr2,rfl,rfl,HR⟩:=hrel;obtain⟨wx,hwx⟩:∃wx,wx=wr:=⟨_,rfl⟩
        subst hwx;by_cases hrl:r<2
        ·have hrlI:(r:Int)<2:=by omega
         obtain⟨Ax,Lx,cx,e1,HX⟩:∃Ax Lx cx,wx.cell? ⟨lb,r,none⟩=some (.slice Ax (Lx:List Nat).length cx)/\Hid (RowAt intL w5 rB Ax Lx/\(if r+1=0 then[]else if r+1=1 then n.keys else n.keys++n.items)=(if r=0 then[]else if r=1 then n.keys else n.keys++n.items)++Lx/\(∀x∈Lx,x<ns.length)/\Lx.length<=1073741823):=by
          obtain rfl|rfl:r=0\/r=1:=by omega
          ·exact⟨ka,n.keys,kc,HR.out.2.2.2.cell 0,Lib.hid ⟨HKI5.out.1,by simp,fun x hx=>HRF.out x (List.mem_append_left _ hx),hkl⟩⟩
          ·exact⟨ia,n.items,ic,HR.out.2.2.2.cell 1,Lib.hid ⟨HKI5.out.2,by simp,fun x hx=>HRF.out x (List.mem_append_right _ hx),hil⟩⟩
         have hxl:=HX.out.2.2.2;go_upto_region 20 with fail;clear e1;go_loopw [6,81] (fun s6 s81 wr=>∃(y:Nat) (q3:List Nat×Bool),y<=Lx.length/\s81=.int .i64 y/\s6=.bool q3.2/\Hid (q3=(Lx.take y).foldl (Gr.dstep t.cn k) q2/\KB rB w5 wr/\Blk wr rB 3 (icells q3.1)/\Blk wr lb 33 #[.slice ka n.keys.length kc,.slice ia n.items.length ic])) (fun _ s81 _=>Lx.length-(intOf s81).toNat)
         case atStart=>exact⟨0,q2,by omega,rfl,rfl,Lib.hid ⟨rfl,HR.out.2⟩⟩
         case round=>
          obtain⟨y,q3,hy,rfl,rfl,HY⟩:=hrel;by_cases hyl:y<Lx.length
          ·have hylI:(y:Int)<(Lx.length:Int):=by omega
           obtain⟨x,hx⟩:∃x,Lx[y]=x:=⟨_,rfl⟩
           have hxn:x<ns.length:=by rw[<-hx];exact HX.out.2.2.1 _ (List.getElem_mem hyl)
           have hkw5:Below rB w5 wr:=HY.out.2.1.below (Nat.le_refl _) (Nat.le_of_lt HB5.out.2.1.lt);obtain⟨adx,rfl,hadx,y0⟩:=int_at (HX.out.1.below hkw5) hyl;rw[hx]at y0;obtain⟨hd0,hd1⟩:=HCI.out x hxn;obtain⟨d,hd⟩:∃d:Nat,t.cn x=(d:Int):=⟨(t.cn x).toNat,by omega⟩
           rw[hd,HM.out]at hd1;have hdI:(d:Int)<(m:Int):=by omega
           have hFr:=(HFL.out.below (HB5.out.1.below (B:=rB) (Nat.le_refl _) (by have:=HLL.out;have:=HLO.out;omega))).below hkw5;have r0:wr.cell? ⟨rC,x,none⟩=some (.int .i64 (d:Int)):=by
            rw[hFr.bc.cell,jcells_get (by rw[HCL.out];exact hxn),<-cn_eq,hd]
           have hxnI:(x:Int)<(ns.length:Int):=by omega
           have HTX:Hid ((Lx.take (y+1)).foldl (Gr.dstep t.cn k) q2=Gr.dstep t.cn k q3 x):=Lib.hid (by rw[take_snocN _ _ hyl,List.foldl_append,<-HY.out.1,hx];rfl);have hyb:y<=1073741823:=by omega
           by_cases hdk:d=k
           ·have hdkb:((k:Int)==(k:Int))=true:=by simp
            rw[hdk]at r0;have HNX:Hid ((q3.1,false)=(Lx.take (y+1)).foldl (Gr.dstep t.cn k) q2/\KB rB w5 wr/\Blk wr rB 3 (icells q3.1)/\Blk wr lb 33 #[.slice ka n.keys.length kc,.slice ia n.items.length ic]):=Lib.hid ⟨by rw[HTX.out];unfold Gr.dstep;rw[if_pos (by rw[hd,hdk])],HY.out.2⟩;clear hFr hkw5 hd hd0 hd1 hx hdk;go_wp2_with fail;go_roundw
            case rel=>exact⟨y+1,(q3.1,false),by omega,by go_num,rfl,HNX⟩
            case measure=>simp[intOf];omega
           ·have hdkb:((d:Int)==(k:Int))=false:=by simp;omega
            have hdkI:¬(d:Int)=(k:Int):=by omega
            obtain⟨a,ha⟩:∃a,q3.1.getD k 0=a:=⟨_,rfl⟩
            obtain⟨b,hb⟩:∃b,q3.1.getD d 0=b:=⟨_,rfl⟩
            have hq3:q3.1.length=m:=by rw[HY.out.1,dfold_len,HR.out.1,dfold_len,HV.out.1,dfoldM_len];exact HPL.out
            have hsm3:Sml M q3:=by rw[HY.out.1];refine Sml.fold _ ?_;rw[HR.out.1];refine Sml.fold _ ?_;rw[HV.out.1];exact Sml.foldM _ _ HSM.out
            have hab:a<=1152921504606846976:=by have:=hsm3 k;have:=HMB.out;omega
            have hbb:b<=1152921504606846976:=by have:=hsm3 d;have:=HMB.out;omega
            have z1:wr.cell? ⟨rB,k,none⟩=some (.int .i64 (a:Int)):=by rw[HY.out.2.2.1.cell,icells_get (by omega),ha]
            have z2:wr.cell? ⟨rB,d,none⟩=some (.int .i64 (b:Int)):=by rw[HY.out.2.2.1.cell,icells_get (by omega),hb]
            have zf:∀j,wr.frozen? ⟨rB,j,none⟩=false:=HY.out.2.2.1.frozen;have HNX:∀v:Nat,v=max a b->Hid ((q3.1.set k v,q3.2)=(Lx.take (y+1)).foldl (Gr.dstep t.cn k) q2/\KB rB w5 (wr.setCell ⟨rB,k,none⟩ (.int .i64 (v:Int))).drew/\Blk (wr.setCell ⟨rB,k,none⟩ (.int .i64 (v:Int))).drew rB 3 (icells (q3.1.set k v))/\Blk (wr.setCell ⟨rB,k,none⟩ (.int .i64 (v:Int))).drew lb 33 #[.slice ka n.keys.length kc,.slice ia n.items.length ic]):=fun v hv=>Lib.hid ⟨by rw[HTX.out];unfold Gr.dstep;rw[if_neg (by rw[hd];exact hdkI),hd,ha,show((d:Int)).toNat=d from by omega,hb,hv],(HY.out.2.1.set _ _).drewN 1,by rw[<-icells_set];exact(HY.out.2.2.1.set_ k _).drew,(HY.out.2.2.2.far (by have:=HLB.out;simp;omega) _).drew⟩
            have HNH:=Lib.hid HNX;clear hFr hkw5 hd hd0 hd1 hx hdk HNX hq3 hsm3 ha hb;go_upto_region 24 with fail;by_cases hmx:a<b
            all_goals go_region
            all_goals go_wp2_with fail
            all_goals
             go_roundw
             case rel=>first| (rw[show max (a:Int) (b:Int)=((max a b:Nat):Int)from by omega];exact⟨y+1,(q3.1.set k (max a b),q3.2),by omega,by go_num,rfl,HNH.out (max a b) rfl⟩)|exact⟨y+1,(q3.1.set k a,q3.2),by omega,by go_num,rfl,HNH.out a (by omega)⟩|exact⟨y+1,(q3.1.set k b,q3.2),by omega,by go_num,rfl,HNH.out b (by omega)⟩
             case measure=>simp[intOf];omega
          ·have hylI:¬(y:Int)<(Lx.length:Int):=by omega
           have HNX:Hid (q3=(if r+1=0 then[]else if r+1=1 then n.keys else n.keys++n.items).foldl (Gr.dstep t.cn k) q/\KB rB w5 wr/\Blk wr rB 3 (icells q3.1)/\Blk wr lb 33 #[.slice ka n.keys.length kc,.slice ia n.items.length ic]):=Lib.hid ⟨by
            rw[HX.out.2.1,List.foldl_append,<-HR.out.1];have:=HY.out.1;rwa[show y=Lx.length from by omega,List.take_length]at this,HY.out.2⟩
           go_wp2_with fail;go_roundw
           case rel=>exact⟨r+1,q3,by omega,by go_num,rfl,HNX⟩
           case measure=>simp[intOf];omega
        ·have hrlI:¬(r:Int)<2:=by omega
         have HNX:Hid (q2=(Lk.take (j+1)).foldl (fun p i=>(Gr.succ ns i).foldl (Gr.dstep t.cn k) p) p/\KB rB wl wx/\Blk wx rB 3 (icells q2.1)):=Lib.hid ⟨by
          have:=HR.out.1;rw[show r=2 from by omega]at this;rw[HTK.out];exact this,HB5.out.1.trans HR.out.2.1,HR.out.2.2.1⟩
         go_wp2_with fail;go_roundw
         case rel=>exact⟨j+1,q2,by omega,by go_num,rfl,HNX⟩
         case measure=>simp[intOf];omega
      ·have hjlI:¬(j:Int)<(Lk.length:Int):=by omega
       obtain⟨a,ha⟩:∃a,q.1.getD k 0=a:=⟨_,rfl⟩
       obtain⟨b,hb⟩:∃b,t.sizes.getD k 0=b:=⟨_,rfl⟩
       have hq:q=Lk.foldl (fun p i=>(Gr.succ ns i).foldl (Gr.dstep t.cn k) p) p:=by
        have:=HV.out.1;rwa[show j=Lk.length from by omega,List.take_length]at this
       have hql:q.1.length=m:=by rw[hq,dfoldM_len];exact HPL.out
       have hab:a<=1152921504606846976:=by
        have h1:Sml M q:=by rw[hq];exact Sml.foldM _ _ HSM.out
        have:=h1 k;have:=HMB.out;omega
       have hbb:b<=1073741823:=by have:=HSN.out k;omega
       have hFv:=HFL.out.below (HV.out.2.1.below (B:=rB) (Nat.le_refl _) (by have:=HLL.out;have:=HLO.out;omega));have hkz:k<t.sizes.length:=by rw[HM.out];exact hlt
       have hbe:t.sizes[k]=b:=by rw[<-hb];simp[List.getD_eq_getElem?_getD,List.getElem?_eq_getElem hkz]
       obtain⟨adz,rfl,hadz,z2⟩:=int_at hFv.rz hkz;rw[hbe]at z2;have z1:wv.cell? ⟨rB,k,none⟩=some (.int .i64 (a:Int)):=by rw[HV.out.2.2.cell,icells_get (by omega),ha]
       have zf:∀j,wv.frozen? ⟨rB,j,none⟩=false:=HV.out.2.2.frozen;have HNX:Hid ((q.1.set k (a+b),q.2)=(List.range (k+1)).foldl (Gr.dcomp (Gr.succ ns) t.cn ns.length t.sizes) (List.replicate m 0,true)/\KB rB wl (wv.setCell ⟨rB,k,none⟩ (.int .i64 ((a:Int)+(b:Int)))).drew/\Blk (wv.setCell ⟨rB,k,none⟩ (.int .i64 ((a:Int)+(b:Int)))).drew rB 3 (icells (q.1.set k (a+b)))):=Lib.hid ⟨by
        rw[List.range_succ,List.foldl_append,<-HW.out.1,List.foldl_cons,List.foldl_nil,HDC.out,<-hq,ha,hb],(HV.out.2.1.set _ _).drewN 1,by
        rw[<-icells_set,show(((a+b:Nat)):Int)=(a:Int)+(b:Int)from by omega];exact(HV.out.2.2.set_ k _).drew⟩
       clear ha hb hq hql hFv hbe hkz;go_upto_region 28 with fail;go_region
       all_goals go_wp2_with fail
       all_goals
        go_roundw
        case rel=>exact⟨k+1,(q.1.set k (a+b),q.2),by omega,by go_num,rfl,HNX⟩
        case measure=>simp[intOf];omega
    ·have hltI:¬(k:Int)<(m:Int):=by omega
     have hke:k=m:=by omega
     have hFv:=HFL.out.below (HW.out.2.1.below (B:=rB) (Nat.le_refl _) (by have:=HLL.out;have:=HLO.out;omega));obtain⟨hd0,hd1⟩:=HCI.out root hroot;obtain⟨d,hd⟩:∃d:Nat,t.cn root=(d:Int):=⟨(t.cn root).toNat,by omega⟩
     rw[hd,HM.out]at hd1;have hdI:(d:Int)<(m:Int):=by omega
     have r0:wq.cell? ⟨rC,root,none⟩=some (.int .i64 (d:Int)):=by
      rw[hFv.bc.cell,jcells_get (by rw[HCL.out];exact hroot),<-cn_eq,hd]
     have g1:wq.cell? ⟨gb,1,none⟩=some (.int .i64 root):=hFv.bg.cell 1;obtain⟨a,ha⟩:∃a,p.1.getD d 0=a:=⟨_,rfl⟩
     have hpl:p.1.length=m:=by rw[HW.out.1,dcomps_len];simp
     have z0:wq.cell? ⟨rB,d,none⟩=some (.int .i64 (a:Int)):=by rw[HW.out.2.2.cell,icells_get (by omega),ha]
     have hsm:Sml (m*ns.length) p:=by
      rw[HW.out.1,<-hke];refine Sml.comps (fun j=>?_) (fun j=>?_) k
      ·simp[List.getD_eq_getElem?_getD,List.getElem?_replicate];split<;>simp
      ·by_cases hj:j<t.sizes.length
       ·rw[HC.out.cnt j hj];exact Nat.le_trans List.countP_le_length (by simp)
       ·simp[List.getD_eq_getElem?_getD,List.getElem?_eq_none (Nat.le_of_not_lt hj)]
     have hab:a<=1152921504606846976:=by
      have:=hsm d;have h2:m*ns.length<=1152921504606846976:=Nat.le_trans (Nat.mul_le_mul (show m<=1073741824 by omega) (show ns.length<=1073741824 by omega)) (by decide);omega
     have HRES:Hid ((Gr.depth ns root).1=(a:Int)-1/\(Gr.depth ns root).2=p.2):=Lib.hid (by
      have hp:p=Gr.dall (Gr.succ ns) t.cn ns.length t.sizes:=by rw[HW.out.1,hke];unfold Gr.dall;rw[HM.out]
      unfold Gr.depth;simp only[HT.out];rw[<-hp,hd,<-ha];exact⟨rfl,rfl⟩)
     have HBW:Hid (Below w.heap.size w wq):=Lib.hid (HLL.out.1.trans (HW.out.2.1.below (by have:=HLO.out;omega) (by have:=HLO.out;have:=HLL.out;omega)));clear hke hFv hd0 hd1 hd ha hpl hsm;go_wp2_with fail;go_ret2;rw[HRES.out.1,HRES.out.2];exact⟨rfl,HBW.out⟩
end Go.Proofs.YtoigpackhninoaaGreatDoor
namespace Go.Proofs.YtoigpackhninoaaGreatDoor
set_option maxRecDepth 100000
set_option maxHeartbeats 16000000
namespace Gr
structure Ni where
 kind:Int
 text:Str
 ord:Bool
 keys:List Int
 items:List Int
def Ni.nd (x:Ni):Nd:=⟨x.kind,x.text,x.ord,x.keys.map Int.toNat,x.items.map Int.toNat⟩
def inR (n:Nat) (x:Int):Bool:=decide (0<=x) && decide (x<(n:Int))
def rng (n:Nat) (x:Ni):Bool:=(x.keys++x.items).all (inR n)
def indB (is:List Ni) (root:Int):Bool:=inR is.length root && is.all (rng is.length)
end Gr
open Go.RowKit
theorem intI_all (l:List Int) (h0:∀x∈l,0<=x):intL.all (l.map Int.toNat)=intI.all l:=by
 induction l with
 |nil=>rfl
 |cons x l ih=>
  have e1:intI.all (x::l)=intI.enc x++intI.all l:=rfl;have e2:intL.all (x.toNat::l.map Int.toNat)=intL.enc x.toNat++intL.all (l.map Int.toNat):=rfl;have hx:=h0 x (.head _);rw[List.map_cons,e1,e2,ih (fun y hy=>h0 y (.tail _ hy))];show[Value.int .i64 ((x.toNat:Nat):Int)]++_=[Value.int .i64 x]++_;rw[show((x.toNat:Nat):Int)=x from by omega]
theorem intI_row {w:World} {B:Nat} {A:Option Addr} {l:List Int} (h:RowAt intI w B A l) (h0:∀x∈l,0<=x):RowAt intL w B A (l.map Int.toNat):=by
 unfold RowAt at h ⊢;rw[intI_all l h0,List.length_map];exact h
theorem int_atI {w:World} {B:Nat} {A:Option Addr} {l:List Int} {k:Nat} (h:RowAt intI w B A l) (hk:k<l.length):∃ad,A=some ad/\ad.block<B/\w.cell? (ad.add k)=some (.int .i64 l[k]):=by
 obtain⟨ad,h1,h2,h3,_⟩:=h.get hk;refine⟨ad,h1,h2,?_⟩;have:=h3 (.int .i64 l[k]) rfl;rwa[show k*intI.sz=k from Nat.mul_one k]at this
structure IAt (w:World) (B:Nat) (A:Option Addr) (vs:List NV) (ns:List Gr.Ni):Prop where
 row:RowAt nodeL w B A vs
 len:vs.length=ns.length
 kind:∀j (h:j<vs.length) (h2:j<ns.length),vs[j].kind=ns[j].kind/\vs[j].text=ns[j].text/\vs[j].ord=ns[j].ord
 nums:∀j (h:j<vs.length) (h2:j<ns.length),RowAt intI w B vs[j].k.a ns[j].keys/\vs[j].k.n=ns[j].keys.length/\RowAt intI w B vs[j].i.a ns[j].items/\vs[j].i.n=ns[j].items.length
theorem IAt.below {w w':World} {B:Nat} {A:Option Addr} {vs:List NV} {ns:List Gr.Ni} (h:IAt w B A vs ns) (hb:Below B w w'):IAt w' B A vs ns:=
 ⟨h.row.below hb,h.len,h.kind,fun j h1 h2=>let⟨a,b,c,d⟩:=h.nums j h1 h2;⟨a.below hb,b,c.below hb,d⟩⟩
theorem IAt.more {w:World} {B B':Nat} {A:Option Addr} {vs:List NV} {ns:List Gr.Ni} (h:IAt w B A vs ns) (hB:B<=B'):IAt w B' A vs ns:=
 ⟨h.row.more hB,h.len,h.kind,fun j h1 h2=>let⟨a,b,c,d⟩:=h.nums j h1 h2;⟨a.more hB,b,c.more hB,d⟩⟩
theorem IAt.toG {w:World} {B:Nat} {A:Option Addr} {vs:List NV} {ns:List Gr.Ni} (h:IAt w B A vs ns) (h0:∀x∈ns,∀y∈x.keys++x.items,0<=y):GAt w B A vs (ns.map Gr.Ni.nd):=by
 refine⟨h.row,by simp[h.len],fun j h1 h2=>?_,fun j h1 h2=>?_⟩
 ·rw[List.length_map]at h2;rw[List.getElem_map];exact h.kind j h1 h2
 ·rw[List.length_map]at h2;rw[List.getElem_map];obtain⟨a,b,c,d⟩:=h.nums j h1 h2;have hm:=h0 _ (List.getElem_mem h2);exact⟨intI_row a (fun y hy=>hm y (List.mem_append_left _ hy)),by rw[b];simp[Gr.Ni.nd],intI_row c (fun y hy=>hm y (List.mem_append_right _ hy)),by rw[d];simp[Gr.Ni.nd]⟩
theorem rng_refs {is:List Gr.Ni} (h:is.all (Gr.rng is.length)=true):(∀x∈is,∀y∈x.keys++x.items,0<=y)/\Gr.Refs (is.map Gr.Ni.nd):=by
 have h1:∀x∈is,∀y∈x.keys++x.items,0<=y/\y<(is.length:Int):=by
  intro x hx y hy;have:=List.all_eq_true.1 (List.all_eq_true.1 h x hx) y hy;simpa[Gr.inR]using this
 refine⟨fun x hx y hy=>(h1 x hx y hy).1,fun x hx r hr=>?_⟩;obtain⟨y,hy,rfl⟩:=List.mem_map.1 hx;rw[List.length_map];rw[Gr.Ni.nd,<-List.map_append]at hr;obtain⟨z,hz,rfl⟩:=List.mem_map.1 hr;have:=h1 y hy z hz;omega
theorem IAt.node {w:World} {B:Nat} {A:Option Addr} {vs:List NV} {ns:List Gr.Ni} (h:IAt w B A vs ns) {j:Nat} (hj:j<ns.length):∃(ad:Addr) (k i:SV),A=some ad/\ad.block<B/\w.cell? (ad.add (j*5))=some (.int .i64 ns[j].kind)/\w.cell? {block:=(ad.add (j*5)).block,off:=(ad.add (j*5)).off+1}=some (.string ⟨ns[j].text.toArray⟩)/\w.cell? {block:=(ad.add (j*5)).block,off:=(ad.add (j*5)).off+2}=some (.bool ns[j].ord)/\
 w.cell? {block:=(ad.add (j*5)).block,off:=(ad.add (j*5)).off+3}=some (.slice k.a k.n k.c)/\w.cell? {block:=(ad.add (j*5)).block,off:=(ad.add (j*5)).off+4}=some (.slice i.a i.n i.c)/\RowAt intI w B k.a ns[j].keys/\k.n=ns[j].keys.length/\RowAt intI w B i.a ns[j].items/\i.n=ns[j].items.length:=by
 have hv:j<vs.length:=by rw[h.len];exact hj
 obtain⟨ad,h1,h2,c0,c1,c2,c3,c4⟩:=node_at h.row hv;obtain⟨k0,k1,k2⟩:=h.kind j hv hj;obtain⟨n1,n2,n3,n4⟩:=h.nums j hv hj;rw[k0]at c0;rw[k1]at c1;rw[k2]at c2;exact⟨ad,vs[j].k,vs[j].i,h1,h2,c0,c1,c2,c3,c4,n1,n2,n3,n4⟩
theorem all_takeS {α:Type} (f:α->Bool) (l:List α) (k:Nat) (h:k<l.length):(l.take (k+1)).all f=((l.take k).all f && f l[k]):=by
 rw[List.take_succ_eq_append_getElem h,List.all_append];simp
theorem indices_any (A:Option Addr) (c:Nat) (root:Int) (vs:List NV) (ns:List Gr.Ni) (hl:ns.length<=1073741823) (hks:∀n∈ns,n.keys.length<=1073741823/\n.items.length<=1073741823) (w:World) (h:IAt w w.heap.size A vs ns):
 Calls Tryz.prog 33 #[.agg #[.slice A ns.length c,.int .i64 root]] w fun e w'=>e=.returned (.bool (Gr.indB ns root))/\Below w.heap.size w w':=by
 have H:=Lib.hid h;obtain⟨b0,hb0⟩:∃b0,Gr.inR ns.length root=b0:=⟨_,rfl⟩
 have HB0:=Lib.hid hb0;unfold Gr.inR at hb0;clear h;go_enter Tryz.func33,Tryz.ntmps33;go_upto_region 1 with fail;go_cut [3] (fun s3 wx=>s3=.bool b0/\∃w1,w1=wx/\w1=w.alloc (.cells #[.slice A ns.length c,.int .i64 root] 24))
 case first=>
  by_cases h1:0<=root
  ·by_cases h2:root<(ns.length:Int)
   ·obtain rfl:b0=true:=by rw[<-hb0];simp[h1,h2]
    clear hb0 HB0;go_wp2_with fail;go_meet;exact⟨rfl,_,rfl,rfl⟩
   ·obtain rfl:b0=false:=by rw[<-hb0];simp[h2]
    clear hb0 HB0;go_wp2_with fail;go_meet;exact⟨rfl,_,rfl,rfl⟩
  ·obtain rfl:b0=false:=by rw[<-hb0];simp[h1]
   clear hb0 HB0;go_wp2_with fail;go_meet;exact⟨rfl,_,rfl,rfl⟩
 case rest=>
  obtain⟨rfl,w1,rfl,hwx⟩:=hcut;have l1:Below w.heap.size w w1:=by rw[hwx];exact(Below.refl _ _).alloc (Nat.le_refl _) _
  have b1:Blk w1 w.heap.size 24 #[.slice A ns.length c,.int .i64 root]:=by rw[hwx];exact Blk.new _ _ _
  have g0:w1.cell? ⟨w.heap.size,0,none⟩=some (.slice A ns.length c):=b1.cell 0;obtain⟨gb,hgb⟩:∃gb,w.heap.size=gb:=⟨_,rfl⟩
  have HGB:=Lib.hid hgb;have L1:=Lib.hid l1;have HB1:=Lib.hid b1;have H1:=Lib.hid (H.out.below l1);rw[hgb]at g0 HB1 H1;(try rw[hgb]);have HW1:Hid (gb<w1.heap.size):=Lib.hid HB1.out.lt;clear hwx l1 b1 hgb hb0;go_upto_region 3 with fail;clear g0;go_loopw [3,24] (fun s3 s24 wr=>∃(j:Nat) (b:Bool),j<=ns.length/\s24=.int .i64 j/\s3=.bool b/\Hid (b=(b0 && (ns.take j).all (Gr.rng ns.length))/\Below w1.heap.size w1 wr)) (fun _ s24 _=>ns.length-(intOf s24).toNat)
  case atStart=>exact⟨0,b0,by omega,rfl,rfl,Lib.hid ⟨by simp,Below.refl _ _⟩⟩
  case round=>
   obtain⟨j,b,hj,rfl,rfl,HW⟩:=hrel;obtain⟨wq,hwq⟩:∃wq,wq=wr:=⟨_,rfl⟩
   subst hwq;by_cases hlt:j<ns.length
   ·have hltI:(j:Int)<(ns.length:Int):=by omega
    obtain⟨ad,ks,is,rfl,hadb,c0,c1,c2,c3,c4,r1,r2,r3,r4⟩:=(H1.out.below (HW.out.2.mono (by have:=HW1.out;omega))).node hlt;obtain⟨ka,kn,kc⟩:=ks;obtain⟨ia,inn,ic⟩:=is;have hnm:ns[j]∈ns:=List.getElem_mem hlt;obtain⟨hkl,hil⟩:=hks _ hnm;have HTK:Hid ((ns.take (j+1)).all (Gr.rng ns.length)=((ns.take j).all (Gr.rng ns.length) && (ns[j].keys++ns[j].items).all (Gr.inR ns.length))):=Lib.hid (by rw[all_takeS _ _ _ hlt];rfl);obtain⟨n,hn⟩:∃n,ns[j]=n:=⟨_,rfl⟩
    rw[hn]at c0 c1 c2 r1 r2 r3 r4 hkl hil HTK;obtain rfl:kn=n.keys.length:=r2;obtain rfl:inn=n.items.length:=r4;have g0:wq.cell? ⟨gb,0,none⟩=some (.slice (some ad) ns.length c):=(HB1.out.below HW.out.2 HW1.out).cell 0;have HR13:=Lib.hid (And.intro r1 r3);have HWQ:Hid (gb<wq.heap.size/\w1.heap.size<=wq.heap.size):=Lib.hid ⟨by have:=HW.out.2.size;have:=HW1.out;omega,HW.out.2.size⟩;clear r1 r3 hnm hn hadb;go_upto_region 5 with fail;obtain⟨w5,hw5⟩:∃w5,wq.alloc (.cells #[.int .i64 n.kind,.string ⟨n.text.toArray⟩,.bool n.ord,.slice ka n.keys.length kc,.slice ia n.items.length ic] 35)=w5:=⟨_,rfl⟩
    have b5:Blk w5 wq.heap.size 35 #[.int .i64 n.kind,.string ⟨n.text.toArray⟩,.bool n.ord,.slice ka n.keys.length kc,.slice ia n.items.length ic]:=by rw[<-hw5];exact Blk.new _ _ _
    have l5:Below wq.heap.size wq w5:=by rw[<-hw5];exact(Below.refl _ _).alloc (Nat.le_refl _) _
    have s3:w5.cell? ⟨wq.heap.size,3,none⟩=some (.slice ka n.keys.length kc):=b5.cell 3;have s4:w5.cell? ⟨wq.heap.size,4,none⟩=some (.slice ia n.items.length ic):=b5.cell 4;(try rw[hw5]);have L5:=Lib.hid l5;clear hw5 b5 l5 c0 c1 c2 c3 c4 g0;go_upto_region 6 with fail;obtain⟨w6,hw6⟩:∃w6,w5.alloc (.cells #[.slice ka n.keys.length kc,.slice ia n.items.length ic] 33)=w6:=⟨_,rfl⟩
    have b6:Blk w6 w5.heap.size 33 #[.slice ka n.keys.length kc,.slice ia n.items.length ic]:=by rw[<-hw6];exact Blk.new _ _ _
    have l6:Below wq.heap.size wq w6:=by rw[<-hw6];exact L5.out.alloc L5.out.size _
    (try rw[hw6]);have HB6:=Lib.hid b6;have g0:w6.cell? ⟨gb,0,none⟩=some (.slice (some ad) ns.length c):=((HB1.out.below HW.out.2 HW1.out).below l6 HWQ.out.1).cell 0;have HR6:Hid (RowAt intI w6 gb ka n.keys/\RowAt intI w6 gb ia n.items):=Lib.hid ⟨HR13.out.1.below (l6.mono (by have:=HWQ.out;omega)),HR13.out.2.below (l6.mono (by have:=HWQ.out;omega))⟩;have L6:Hid (Below w1.heap.size w1 w6):=Lib.hid (HW.out.2.trans (l6.mono HWQ.out.2));clear hw6 b6 l6 s3 s4;go_loop [3,34] (fun s3 s34=>∃(r:Nat) (b2:Bool),r<=2/\s34=.int .i64 r/\s3=.bool b2/\Hid (b2=(b && (if r=0 then[]else if r=1 then n.keys else n.keys++n.items).all (Gr.inR ns.length)))) (fun _ s34=>2-(intOf s34).toNat)
    case atStart=>exact⟨0,b,by omega,rfl,rfl,Lib.hid (by simp)⟩
    case round=>
     obtain⟨r,b2,hr2,rfl,rfl,HR⟩:=hrel;by_cases hrl:r<2
     ·have hrlI:(r:Int)<2:=by omega
      obtain⟨Ax,Lx,cx,e1,HX⟩:∃Ax Lx cx,w6.cell? ⟨w5.heap.size,r,none⟩=some (.slice Ax (Lx:List Int).length cx)/\Hid (RowAt intI w6 gb Ax Lx/\(if r+1=0 then[]else if r+1=1 then n.keys else n.keys++n.items)=(if r=0 then[]else if r=1 then n.keys else n.keys++n.items)++Lx/\Lx.length<=1073741823):=by
       obtain rfl|rfl:r=0\/r=1:=by omega
       ·exact⟨ka,n.keys,kc,HB6.out.cell 0,Lib.hid ⟨HR6.out.1,by simp,hkl⟩⟩
       ·exact⟨ia,n.items,ic,HB6.out.cell 1,Lib.hid ⟨HR6.out.2,by simp,hil⟩⟩
      have hxl:=HX.out.2.2;go_upto_region 9 with fail;clear e1;go_loop [3,40] (fun s3 s40=>∃(y:Nat) (b3:Bool),y<=Lx.length/\s40=.int .i64 y/\s3=.bool b3/\Hid (b3=(b2 && (Lx.take y).all (Gr.inR ns.length)))) (fun _ s40=>Lx.length-(intOf s40).toNat)
      case atStart=>exact⟨0,b2,by omega,rfl,rfl,Lib.hid (by simp)⟩
      case round=>
       obtain⟨y,b3,hy,rfl,rfl,HY⟩:=hrel;by_cases hyl:y<Lx.length
       ·have hylI:(y:Int)<(Lx.length:Int):=by omega
        obtain⟨x,hx⟩:∃x,Lx[y]=x:=⟨_,rfl⟩
        obtain⟨adx,rfl,hadx,y0⟩:=int_atI HX.out.1 hyl;rw[hx]at y0;have HTX:Hid ((Lx.take (y+1)).all (Gr.inR ns.length)=((Lx.take y).all (Gr.inR ns.length) && (decide (0<=x) && decide (x<(ns.length:Int))))):=Lib.hid (by rw[all_takeS _ _ _ hyl,hx];rfl);clear hx;cases b3 with
        |false=>
         have HN:Hid (false=(b2 && (Lx.take (y+1)).all (Gr.inR ns.length))):=Lib.hid (by rw[HTX.out,<-Bool.and_assoc,<-HY.out];rfl);clear HY;go_wp2_with fail;go_round
         case rel=>exact⟨y+1,false,by omega,by go_num,rfl,HN⟩
         case measure=>simp[intOf];omega
        |true=>
         by_cases h1:0<=x
         ·by_cases h2:x<(ns.length:Int)
          ·have HN:Hid (true=(b2 && (Lx.take (y+1)).all (Gr.inR ns.length))):=Lib.hid (by rw[HTX.out,<-Bool.and_assoc,<-HY.out];simp[h1,h2]);clear HY;go_wp2_with fail;go_round
           case rel=>exact⟨y+1,true,by omega,by go_num,rfl,HN⟩
           case measure=>simp[intOf];omega
          ·have HN:Hid (false=(b2 && (Lx.take (y+1)).all (Gr.inR ns.length))):=Lib.hid (by rw[HTX.out,<-Bool.and_assoc,<-HY.out];simp[h2]);clear HY;go_wp2_with fail;go_round
           case rel=>exact⟨y+1,false,by omega,by go_num,rfl,HN⟩
           case measure=>simp[intOf];omega
         ·have HN:Hid (false=(b2 && (Lx.take (y+1)).all (Gr.inR ns.length))):=Lib.hid (by rw[HTX.out,<-Bool.and_assoc,<-HY.out];simp[h1]);clear HY;go_wp2_with fail;go_round
          case rel=>exact⟨y+1,false,by omega,by go_num,rfl,HN⟩
          case measure=>simp[intOf];omega
       ·have hylI:¬(y:Int)<(Lx.length:Int):=by omega
        have HN:Hid (b3=(b && (if r+1=0 then[]else if r+1=1 then n.keys else n.keys++n.items).all (Gr.inR ns.length))):=Lib.hid (by
         rw[HX.out.2.1,List.all_append,<-Bool.and_assoc,<-HR.out];have:=HY.out;rwa[show y=Lx.length from by omega,List.take_length]at this)
        go_wp2_with fail;go_round
        case rel=>exact⟨r+1,b3,by omega,by go_num,rfl,HN⟩
        case measure=>simp[intOf];omega
     ·have hrlI:¬(r:Int)<2:=by omega
      have HN:Hid (b2=(b0 && (ns.take (j+1)).all (Gr.rng ns.length))/\Below w1.heap.size w1 w6):=Lib.hid ⟨by
       have:=HR.out;rw[show r=2 from by omega]at this;rw[HTK.out,<-Bool.and_assoc,<-HW.out.1];exact this,L6.out⟩
      go_wp2_with fail;go_roundw
      case rel=>exact⟨j+1,b2,by omega,by go_num,rfl,HN⟩
      case measure=>simp[intOf];omega
   ·have hltI:¬(j:Int)<(ns.length:Int):=by omega
    have HRES:Hid (Gr.indB ns root=b/\Below w.heap.size w wq):=Lib.hid ⟨by
     have:=HW.out.1;rw[show j=ns.length from by omega,List.take_length]at this;unfold Gr.indB;rw[HB0.out,this],L1.out.trans (HW.out.2.mono L1.out.size)⟩
    go_wp2_with fail;go_ret;rw[HRES.out.1];exact⟨rfl,HRES.out.2⟩
end Go.Proofs.YtoigpackhninoaaGreatDoor
namespace Go.Proofs.YtoigpackhninoaaGreatDoor
open Go.RowKit
abbrev SK:=Int×Gr.Str
def skv (k:SK):Value:=.agg #[.int .i64 k.1,.string ⟨k.2.toArray⟩]
theorem sk_fields:(Tryz.prog.fieldsOf 91).toList.map (fun f=>(f.name,f.type,f.offset))=[("Index",3,0),("Key",9,1)]:=by kernel_rfl
theorem sk_und:Tryz.prog.underlying 91=some (.struct (Tryz.prog.fieldsOf 91)):=by kernel_rfl
theorem sk_stood:Tryz.prog.stoodInHeld 91=false:=by kernel_rfl
theorem sk_plainI:Tryz.prog.plainKey 3=true:=by kernel_rfl
theorem sk_plainS:Tryz.prog.plainKey 9=true:=by kernel_rfl
theorem sk_eq (a b:SK) (w:World):(Op.equal 91 (skv a) (skv b)).run Tryz.prog w=.ok (a==b) w:=by
 unfold Op.equal Op.maxDepth skv;rw[run_equalIn_struct w 9999 91 _ _ sk_und sk_stood];have hf:=sk_fields;obtain⟨fs,hfs⟩:∃fs,(Tryz.prog.fieldsOf 91).toList=fs:=⟨_,rfl⟩
 rw[hfs]at hf ⊢;obtain⟨f,g,rfl⟩:∃f g,fs=[f,g]:=by
  rcases fs with _|⟨f,_|⟨g,_|⟨h,r⟩⟩⟩
  ·simp at hf
  ·simp at hf
  ·exact⟨f,g,rfl⟩
  ·simp at hf
 simp only[List.map_cons,List.map_nil,List.cons.injEq,Prod.mk.injEq,and_true]at hf;obtain⟨⟨f1,f2,f3⟩,g1,g2,g3⟩:=hf;simp only[Op.eqFields,f1,g1,f2,g2,f3,g3];have p1:∀(x y:Value),(part 3 #[x,y] 0).run Tryz.prog w=.ok x w:=fun x y=>run_part_plain w sk_plainI rfl
 have p2:∀(x y:Value),(part 9 #[x,y] 1).run Tryz.prog w=.ok y w:=fun x y=>run_part_plain w sk_plainS rfl
 have e:(a==b)=((a.1==b.1) && (a.2==b.2)):=rfl;have e2:((⟨a.2.toArray⟩:ByteArray).toList==(⟨b.2.toArray⟩:ByteArray).toList)=(a.2==b.2):=by rw[ByteArray.toList_eq,ByteArray.toList_eq]
 rw[e];simp[p1,p2,run_equalIn_int w 9998 3 .i64 .i64 a.1 b.1 Tryz.underlying3,run_equalIn_string w 9998 9 _ _ Tryz.underlying9];by_cases h:a.1=b.1<;>by_cases h2:a.2=b.2<;>simp[h,h2]
structure MapAt (w:World) (D b:Nat) (gl:List (SK×List Nat)) (vs:List Value) (es:Array MapEntry):Prop where
 blk:w.heap[b]? =some (.map es gl.length)
 lv:vs.length=gl.length
 le:es.size=gl.length
 at_:∀i (h:i<es.size) (h1:i<gl.length) (h2:i<vs.length),es[i]=⟨skv gl[i].1,vs[i],i⟩
 own:∀i (h1:i<vs.length) (h2:i<gl.length),OwnRow intL w D 3 vs[i] gl[i].2
 ap:∀i j (h1:i<vs.length) (h2:j<vs.length),i≠j->∀k,vs[i].ownBlock=some k->vs[j].ownBlock≠some k
 nd:(gl.map (·.1)).Nodup
 lo:b<D
 hd:D<=w.heap.size
theorem sk_checkN (em:Bool) (n:Nat) (k:SK) (w:World):(Instr.checkKey em (n+1+1) 91 (skv k)).run Tryz.prog w=.ok () w:=by
 unfold skv;have hf:=sk_fields;have p1:∀(x y:Value),(part 3 #[x,y] 0).run Tryz.prog w=.ok x w:=fun x y=>run_part_plain w sk_plainI rfl
 have p2:∀(x y:Value),(part 9 #[x,y] 1).run Tryz.prog w=.ok y w:=fun x y=>run_part_plain w sk_plainS rfl
 have c1:∀(x:Int),(Instr.checkKey em (n+1) 3 (.int .i64 x)).run Tryz.prog w=.ok () w:=fun x=>by simp[Instr.checkKey,run_underlying Tryz.underlying3]
 have c2:∀(x:ByteArray),(Instr.checkKey em (n+1) 9 (.string x)).run Tryz.prog w=.ok () w:=fun x=>by simp[Instr.checkKey,run_underlying Tryz.underlying9]
 generalize hn:n+1=m at c1 c2;rw[Instr.checkKey];simp only[Sem.run_bind,run_underlying sk_und,Result.andThen_ok];rw[<-Array.forIn_toList];obtain⟨fs,hfs⟩:∃fs,(Tryz.prog.fieldsOf 91).toList=fs:=⟨_,rfl⟩
 rw[hfs]at hf ⊢;obtain⟨f,g,rfl⟩:∃f g,fs=[f,g]:=by
  rcases fs with _|⟨f,_|⟨g,_|⟨h,r⟩⟩⟩
  ·simp at hf
  ·simp at hf
  ·exact⟨f,g,rfl⟩
  ·simp at hf
 simp only[List.map_cons,List.map_nil,List.cons.injEq,Prod.mk.injEq,and_true]at hf;obtain⟨⟨f1,f2,f3⟩,g1,g2,g3⟩:=hf;simp[List.forIn_cons,f1,f2,f3,g1,g2,g3,p1,p2,c1,c2]
theorem sk_check (em:Bool) (k:SK) (w:World):(Instr.checkKey em 10000 91 (skv k)).run Tryz.prog w=.ok () w:=sk_checkN em 9998 k w
theorem sk_ask (k:SK) (W:World):∀(gl:List (SK×List Nat)) (vs:List Value) (es:List MapEntry) (m:Nat),es.length=gl.length->vs.length=gl.length->(∀i (h:i<es.length) (h1:i<gl.length) (h2:i<vs.length),es[i].key=skv gl[i].1/\es[i].val=vs[i])->
 (∃j,∃(h1:j<gl.length) (h2:j<vs.length),gl[j].1=k/\(Instr.findAsking 91 (skv k) es m).run Tryz.prog W=.ok (some (m+j,vs[j])) W)\/((∀g∈gl,g.1≠k)/\(Instr.findAsking 91 (skv k) es m).run Tryz.prog W=.ok none W):=by
 intro gl
 induction gl with
 |nil=>
  intro vs es m h1 h2 _;obtain rfl:=List.eq_nil_of_length_eq_zero h1;exact .inr ⟨by simp,by simp[Instr.findAsking]⟩
 |cons g gl ih=>
  intro vs es m h1 h2 h3
  match es,vs,h1,h2 with
  |e::es,v::vs,h1,h2=>
   obtain⟨e1,e2⟩:=h3 0 (by simp) (by simp) (by simp);simp only[List.getElem_cons_zero]at e1 e2;by_cases hk:g.1=k
   ·refine .inl ⟨0,by simp,by simp,by simpa using hk,?_⟩;simp[Instr.findAsking,e1,sk_eq,hk,e2]
   ·have hne:(k==g.1)=false:=by simpa using fun e=>hk e.symm
    have hr:(Instr.findAsking 91 (skv k) (e::es) m).run Tryz.prog W=(Instr.findAsking 91 (skv k) es (m+1)).run Tryz.prog W:=by
     simp[Instr.findAsking,e1,sk_eq,hne]
    rw[hr];rcases ih vs es (m+1) (by simpa using h1) (by simpa using h2) (fun i a b c=>by
     have:=h3 (i+1) (by simp;omega) (by simp;omega) (by simp;omega);simpa using this)with⟨j,a,b,c,d⟩|⟨a,b⟩
    ·refine .inl ⟨j+1,by simp;omega,by simp;omega,by simpa using c,?_⟩;rw[d];simp;omega
    ·refine .inr ⟨fun x hx=>?_,b⟩;rcases List.mem_cons.1 hx with rfl|hx
     ·exact hk
     ·exact a x hx
section
variable {w w2:World} {D b:Nat} {gl:List (SK×List Nat)} {vs:List Value} {es:Array MapEntry}
theorem MapAt.find (h:MapAt w D b gl vs es) (k:SK) (W:World):(∃j,∃(h1:j<gl.length) (h2:j<vs.length),gl[j].1=k/\(Instr.findKey 91 (skv k) es.toList).run Tryz.prog W=.ok (some (j,vs[j])) W)\/((∀g∈gl,g.1≠k)/\(Instr.findKey 91 (skv k) es.toList).run Tryz.prog W=.ok none W):=by
 rw[run_findKey_eq W (k:=91) (by rw[sk_und])];have:=sk_ask k W gl vs es.toList 0 (by simpa using h.le) h.lv (fun i h0 h1 h2=>by
  have:=h.at_ i (by simpa using h0) h1 h2;simp only[Array.getElem_toList,this];exact⟨trivial,trivial⟩)
 simpa using this
theorem MapAt.look (h:MapAt w D b gl vs es) (k:SK):(∃j,∃(h1:j<gl.length) (h2:j<vs.length),gl[j].1=k/\(Instr.lookup 89 (.map (some b)) (skv k) false).run Tryz.prog w=.ok vs[j] w)\/((∀g∈gl,g.1≠k)/\(Instr.lookup 89 (.map (some b)) (skv k) false).run Tryz.prog w=.ok (.slice none 0 0) w):=by
 rcases h.find k w with⟨j,h1,h2,h3,h4⟩|⟨h1,h2⟩
 ·refine .inl ⟨j,h1,h2,h3,?_⟩;simp[Instr.lookup,run_underlying Tryz.underlying89,MapKept.run_getObj_map h.blk,sk_check,h4]
 ·refine .inr ⟨h1,?_⟩;simp[Instr.lookup,run_underlying Tryz.underlying89,MapKept.run_getObj_map h.blk,sk_check,h2]
theorem Kept1.heap {w:World} {g:Nat} (o:Obj):Kept1 g w {w with heap:=w.heap.setIfInBounds g o}:=by
 refine⟨rfl,rfl,rfl,by simp,fun k hk=>?_⟩;show(w.heap.setIfInBounds g o)[k]? =_;rw[Array.getElem?_setIfInBounds_ne (Ne.symm hk)]
theorem heap_blk {w:World} {g:Nat} {o o':Obj} (h:w.heap[g]? =some o):({w with heap:=w.heap.setIfInBounds g o'}:World).heap[g]? =some o':=by
 show(w.heap.setIfInBounds g o')[g]? =_;have hlt:g<w.heap.size:=(Array.getElem?_eq_some_iff.1 h).1;rw[Array.getElem?_setIfInBounds_self_of_lt hlt]
theorem OwnRow.kept1 {α:Type} {L:Lay α} {w w':World} {base g:Nat} {E:TypeId} {v:Value} {l:List α} (h:OwnRow L w base E v l) (hk:Kept1 g w w') (hg:g<base):OwnRow L w' base E v l:=by
 have hlt:=h.lt;refine⟨h.1,h.2.imp id ?_⟩;rintro⟨g',cap,cur,hv,hge,hh,r⟩;exact⟨g',cap,cur,hv,hge,(hk.block g' (by omega)).trans hh,r⟩
theorem MapAt.entry (h:MapAt w D b gl vs es) (k:SK):∃(w1:World) (gl1:List (SK×List Nat)) (vs1:List Value) (es1:Array MapEntry) (j:Nat),∃(h1:j<gl1.length) (h2:j<vs1.length),(Instr.mapEntry 89 (.map (some b)) (skv k)).run Tryz.prog w=.ok (.tuple #[vs1[j],.int .i64 (j:Int)]) w1/\Kept1 b w w1/\MapAt w1 D b gl1 vs1 es1/\gl1[j].1=k/\
 (gl1=gl\/((∀g∈gl,g.1≠k)/\gl1=gl++[(k,[])])):=by
 rcases h.find k w with⟨j,h1,h2,h3,h4⟩|⟨h1,h2⟩
 ·have hje:j<es.size:=by rw[h.le];exact h1
  have hkey:(es[j]?.map (·.key)).getD (skv k)=skv k:=by
   rw[Array.getElem?_eq_getElem hje,h.at_ j hje h1 h2];simp[h3]
  have hborn:(es[j]?.map (·.born)).getD 0=j:=by
   rw[Array.getElem?_eq_getElem hje,h.at_ j hje h1 h2];simp
  have hstay:(Instr.keyThatStays (skv k) (skv k)).run Tryz.prog w=.ok (skv k) w:=by
   have:Instr.sameBits 10000 (skv k) (skv k)=true:=by
    show Instr.sameBits (9999+1) (skv k) (skv k)=true;unfold skv;rw[Instr.sameBits];simp[Instr.sameBits,(MapKept.bytes_beq _ _).2 rfl]
   simp[Instr.keyThatStays,this]
  have hmod:es.modify j (fun e=>{e with key:=skv k})=es:=by
   apply Array.ext
   ·simp
   ·intro i a c;rw[Array.getElem_modify];split
    ·subst i;rw[h.at_ j hje h1 h2,h3]
    ·rfl
  refine⟨{w with heap:=w.heap.setIfInBounds b (.map es gl.length)},gl,vs,es,j,h1,h2,?_,Kept1.heap _,?_,h3,.inl rfl⟩
  ·simp[Instr.mapEntry,run_underlying Tryz.underlying89,MapKept.run_getObj_map h.blk,sk_check,h4,hkey,hstay,hmod,MapKept.run_setObj_map _ h.blk,goInt];rw[Array.getElem?_eq_getElem hje,h.at_ j hje h1 h2];simp
  ·exact⟨heap_blk h.blk,h.lv,h.le,h.at_,fun i a c=>(h.own i a c).kept1 (Kept1.heap _) h.lo,h.ap,h.nd,h.lo,by have:=h.hd;simpa using this⟩
 ·have hb:=h.lo;refine⟨{w with heap:=w.heap.setIfInBounds b (.map (es.push ⟨skv k,.slice none 0 0,gl.length⟩) (gl.length+1))},gl++[(k,[])],vs++[.slice none 0 0],es.push ⟨skv k,.slice none 0 0,gl.length⟩,gl.length,by simp,by simp[h.lv],?_,Kept1.heap _,?_,by simp,.inr ⟨h1,rfl⟩⟩
  ·have:(vs++[Value.slice none 0 0])[gl.length]'(by simp[h.lv])=.slice none 0 0:=by simp[<-h.lv]
   simp[Instr.mapEntry,run_underlying Tryz.underlying89,MapKept.run_getObj_map h.blk,sk_check,h2,MapKept.run_setObj_map _ h.blk,goInt,this]
  ·refine⟨?_,by simp[h.lv],by simp[h.le],?_,?_,?_,?_,h.lo,by have:=h.hd;simpa using this⟩
   ·rw[heap_blk h.blk];simp
   ·intro i a c d;simp only[Array.size_push,List.length_append,List.length_cons,List.length_nil,h.le]at a c d;by_cases hi:i<gl.length
    ·rw[Array.getElem_push_lt (by rw[h.le];exact hi),h.at_ i (by rw[h.le];exact hi) hi (by rw[h.lv];exact hi),List.getElem_append_left hi,List.getElem_append_left (by rw[h.lv];exact hi)]
    ·have hie:i=gl.length:=by omega
     subst hie;have e1:(es.push ⟨skv k,.slice none 0 0,gl.length⟩)[gl.length]'(by simp[h.le])=⟨skv k,.slice none 0 0,gl.length⟩:=by
      simp[Array.getElem_push,h.le]
     rw[e1];have e2:(vs++[Value.slice none 0 0])[gl.length]'(by simp[h.lv])=.slice none 0 0:=by simp[<-h.lv]
     rw[e2];simp
   ·intro i a c;simp only[List.length_append,List.length_cons,List.length_nil]at a c;by_cases hi:i<gl.length
    ·have hv:i<vs.length:=by rw[h.lv];exact hi
     rw[List.getElem_append_left hv,List.getElem_append_left hi];exact(h.own i hv hi).kept1 (Kept1.heap _) h.lo
    ·have hie:i=gl.length:=by omega
     subst hie;have e2:(vs++[Value.slice none 0 0])[gl.length]'(by simp[h.lv])=.slice none 0 0:=by simp[<-h.lv]
     rw[e2];simp only[List.getElem_concat_length];exact OwnRow.nil
   ·intro i j a c hne g e;simp only[List.length_append,List.length_cons,List.length_nil]at a c;by_cases hi:i<vs.length
    ·rw[List.getElem_append_left hi]at e;by_cases hj:j<vs.length
     ·rw[List.getElem_append_left hj];exact h.ap i j hi hj hne g e
     ·have hje:j=vs.length:=by omega
      subst hje;simp[Value.ownBlock]
    ·have hie:i=vs.length:=by omega
     subst hie;simp[Value.ownBlock]at e
   ·rw[List.map_append,List.nodup_append];refine⟨h.nd,by simp,?_⟩;intro a ha c hc;simp at hc;subst hc;obtain⟨g,hg,rfl⟩:=List.mem_map.1 ha;exact h1 g hg
theorem MapAt.store (h:MapAt w D b gl vs es) {j:Nat} (h1:j<gl.length) (h2:j<vs.length) {v2:Value} {l:List Nat} (ho:OwnRow intL w2 D 3 v2 l) (hg:w.grownBy w2 (vs[j]).ownBlock) (hat:v2.ownBlock=(vs[j]).ownBlock\/v2.ownBlock=some w.heap.size):
 ∃w3 es3,(Instr.entryStore 89 (.map (some b)) (.int .i64 (j:Int)) v2).run Tryz.prog w2=.ok () w3/\Kept1 b w2 w3/\MapAt w3 D b (gl.set j (gl[j].1,l)) (vs.set j v2) es3:=by
 have hlo:=h.lo;have hsz:=hg.size;have hje:j<es.size:=by rw[h.le];exact h1
 have hb2:w2.heap[b]? =some (.map es gl.length):=(hg.block b (by have:=h.hd;omega) (fun e=>by have:=((h.own j h2 h1).lt b e.symm).1;omega)).trans h.blk;have hidx:es.findIdx? (fun e=>((e.born:Nat):Int)==(j:Int))=some j:=by
  rw[Array.findIdx?_eq_some_iff_getElem];refine⟨hje,by rw[h.at_ j hje h1 h2];simp,fun i hi=>?_⟩;rw[h.at_ i (by omega) (by omega) (by have:=h.lv;omega)];simp;omega
 have hap:∀i (a:i<vs.length),i≠j->∀k,v2.ownBlock=some k->vs[i].ownBlock≠some k:=by
  intro i a hne k e e2;rcases hat with h3|h3
  ·exact h.ap i j a h2 hne k e2 (h3.symm.trans e)
  ·have:=((h.own i a (by have:=h.lv;omega)).lt k e2).2;rw[h3]at e;injection e with e;omega
 refine⟨{w2 with heap:=w2.heap.setIfInBounds b (.map (es.modify j fun e=>{e with val:=v2}) gl.length)},es.modify j fun e=>{e with val:=v2},?_,Kept1.heap _,?_⟩
 ·simp[Instr.entryStore,MapKept.run_getObj_map hb2,asInt,asIntOf,hidx,MapKept.run_setObj_map _ hb2]
 ·refine⟨by rw[heap_blk hb2];simp,by simp[h.lv],by simp[h.le],?_,?_,?_,?_,hlo,by have:=h.hd;simp;omega⟩
  ·intro i a c d;simp only[Array.size_modify,List.length_set]at a c d;rw[Array.getElem_modify];by_cases hi:i=j
   ·subst hi;simp only[if_true,List.getElem_set_self];rw[h.at_ i hje h1 h2]
   ·rw[if_neg (by omega),List.getElem_set_ne (by omega),List.getElem_set_ne (by omega),h.at_ i (by rw[h.le];simpa using c) (by simpa using c) (by simpa using d)]
  ·intro i a c;have a':i<vs.length:=by simpa using a
   have c':i<gl.length:=by simpa using c
   by_cases hi:i=j
   ·subst hi;simp only[List.getElem_set_self];exact ho.kept1 (Kept1.heap _) hlo
   ·simp only[List.getElem_set_ne (Ne.symm hi)];exact((h.own i a' c').off hg (fun k e e2=>h.ap i j a' h2 hi k e e2.symm)).kept1 (Kept1.heap _) hlo
  ·intro i i' a c hne g e;have a':i<vs.length:=by simpa using a
   have c':i'<vs.length:=by simpa using c
   by_cases hi:i=j
   ·subst hi;simp only[List.getElem_set_self]at e;simp only[List.getElem_set_ne hne];exact hap i' c' (Ne.symm hne) g e
   ·simp only[List.getElem_set_ne (Ne.symm hi)]at e;by_cases hj:i'=j
    ·subst hj;simp only[List.getElem_set_self];exact fun e2=>hap i a' hi g e2 e
    ·simp only[List.getElem_set_ne (Ne.symm hj)];exact h.ap i i' a' c' hne g e
  ·have:(gl.set j (gl[j].1,l)).map (·.1)=gl.map (·.1):=by
    apply List.ext_getElem
    ·simp
    ·intro i a c;simp only[List.length_map,List.length_set]at a;simp only[List.getElem_map];by_cases hi:i=j
     ·subst hi;simp
     ·rw[List.getElem_set_ne (Ne.symm hi)]
   rw[this];exact h.nd
end
structure GI (kd:Nat->SK) (P:List Nat) (gl:List (SK×List Nat)):Prop where
 grp:∀g∈gl,g.2=P.filter (fun x=>kd x==g.1)
 all:∀x∈P,∃g∈gl,g.1=kd x
theorem GI.nil (kd:Nat->SK):GI kd [] []:=⟨fun _ h=>(by cases h),fun _ h=>(by cases h)⟩
theorem GI.none {kd:Nat->SK} {P:List Nat} {gl:List (SK×List Nat)} (h:GI kd P gl) {k:SK} (hk:∀g∈gl,g.1≠k):P.filter (fun x=>kd x==k)=[]:=by
 rw[List.filter_eq_nil_iff];intro x hx e;obtain⟨g,hg,he⟩:=h.all x hx;exact hk g hg (he.trans (by simpa using e))
theorem GI.next {kd:Nat->SK} {P:List Nat} {gl gl1:List (SK×List Nat)} (h:GI kd P gl) {x j:Nat} (h1:j<gl1.length) (hk:gl1[j].1=kd x) (hor:gl1=gl\/((∀g∈gl,g.1≠kd x)/\gl1=gl++[(kd x,[])])) (hn:(gl1.map (·.1)).Nodup):
 GI kd (P++[x]) (gl1.set j (gl1[j].1,gl1[j].2++[x])):=by
 have hG:GI kd P gl1:=by
  rcases hor with rfl|⟨h2,rfl⟩
  ·exact h
  ·refine⟨fun g hg=>?_,fun y hy=>?_⟩
   ·rcases List.mem_append.1 hg with hg|hg
    ·exact h.grp g hg
    ·simp at hg;subst hg;exact(h.none h2).symm
   ·obtain⟨g,hg,he⟩:=h.all y hy;exact⟨g,List.mem_append_left _ hg,he⟩
 have hj:=hG.grp _ (List.getElem_mem h1);refine⟨fun g hg=>?_,fun y hy=>?_⟩
 ·obtain⟨i,hi,rfl⟩:=List.getElem_of_mem hg;simp only[List.length_set]at hi;by_cases hij:i=j
  ·subst hij;simp only[List.getElem_set_self,List.filter_append,hk];rw[<-hk,<-hj,hk];simp
  ·simp only[List.getElem_set_ne (Ne.symm hij),List.filter_append];rw[<-hG.grp _ (List.getElem_mem hi)];have hne:gl1[i].1≠kd x:=fun e=>by
    have hn':=List.pairwise_iff_getElem.1 (show(gl1.map (·.1)).Pairwise (· ≠·)from hn);rcases Nat.lt_or_gt_of_ne hij with h3|h3
    ·exact hn' i j (by simpa using hi) (by simpa using h1) h3 (by simp[e,hk])
    ·exact hn' j i (by simpa using h1) (by simpa using hi) h3 (by simp[e,hk])
   simp[Ne.symm hne]
 ·have hold:∀g∈gl1,∃g'∈gl1.set j (gl1[j].1,gl1[j].2++[x]),g'.1=g.1:=by
   intro g hg;obtain⟨i,hi,rfl⟩:=List.getElem_of_mem hg;refine⟨(gl1.set j (gl1[j].1,gl1[j].2++[x]))[i]'(by simpa using hi),List.getElem_mem _,?_⟩;by_cases hij:i=j
   ·subst hij;simp
   ·rw[List.getElem_set_ne (Ne.symm hij)]
  rcases List.mem_append.1 hy with hy|hy
  ·obtain⟨g,hg,he⟩:=hG.all y hy;obtain⟨g',h3,h4⟩:=hold g hg;exact⟨g',h3,h4.trans he⟩
  ·simp at hy;subst hy;obtain⟨g',h3,h4⟩:=hold _ (List.getElem_mem h1);exact⟨g',h3,h4.trans hk⟩
end Go.Proofs.YtoigpackhninoaaGreatDoor

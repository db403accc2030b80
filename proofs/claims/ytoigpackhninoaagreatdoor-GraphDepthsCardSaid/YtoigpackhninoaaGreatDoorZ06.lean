import Derived.Test.YtoigpackhninoaaGreatDoorZ05
import Derived.Test.YtoigpackhninoaaGreatDoorZ15
namespace Go.Proofs.YtoigpackhninoaaGreatDoor
open Gr
open _root_.Go.Proofs.Tryz
open Go.RowKit
theorem infoSl:(prog.info? 33).map (fun i=>(i.zero,i.size,i.bytes))=some (some (.slice none 0 0),1,24):=by kernel_rfl
theorem zjk (n:Nat) (hn:n<=1073741824) (W:World):(Instr.makeSlice 87 (.int .i64 (n:Int)) (.int .i64 (n:Int))).run prog W=.ok (.slice (some ⟨W.heap.size,0,none⟩) n n) (W.alloc (.cells (List.replicate n (Value.slice none 0 0)).toArray 33)):=by
 obtain⟨i5,hi5,hz5,hs5,hby5⟩:=info_parts infoSl;have:=zbk (P:=prog) 87 33 i5 _ underlying87 hi5 hz5 .i64 .i64 n n (Nat.le_refl _) (by rw[hby5];omega) (by omega) W;rw[hs5]at this;simp only[Value.cells,zbl]at this;exact this
structure Mems (w:World) (D rM:Nat) (mv:List Value) (ml:List (List Nat)):Prop where
 blk:Blk w rM 33 mv.toArray
 lo:rM<D
 hd:D<=w.heap.size
 len:mv.length=ml.length
 own:∀c (h1:c<mv.length) (h2:c<ml.length),OwnRow intL w D 3 mv[c] ml[c]
 ap:∀c c' (h1:c<mv.length) (h2:c'<mv.length),c≠c'->∀k,mv[c].ownBlock=some k->mv[c'].ownBlock≠some k
section
variable {w w' w2:World} {D rM:Nat} {mv:List Value} {ml:List (List Nat)}
theorem Mems.start {m:Nat} (hb:Blk w rM 33 (List.replicate m (Value.slice none 0 0)).toArray) (lo:rM<D) (hd:D<=w.heap.size):Mems w D rM (List.replicate m (.slice none 0 0)) (List.replicate m []):=
 ⟨hb,lo,hd,by simp,fun c h1 h2=>by simp only[List.getElem_replicate];exact OwnRow.nil,fun c c' h1 h2 _ k e=>by simp only[List.getElem_replicate]at e;cases e⟩
theorem Mems.later (h:Mems w D rM mv ml) (hb:Below w.heap.size w w'):Mems w' D rM mv ml:=
 ⟨h.blk.below hb h.blk.lt,h.lo,Nat.le_trans h.hd hb.size,h.len,fun c h1 h2=>(h.own c h1 h2).later hb,h.ap⟩
theorem Mems.alloc (h:Mems w D rM mv ml) (o:Obj):Mems (w.alloc o) D rM mv ml:=h.later ((Below.refl _ _).alloc (Nat.le_refl _) o)
theorem Mems.kb {g:Nat} (h:Mems w D rM mv ml) (hk:KB g w w') (hg:g<D) (hne:g≠rM):Mems w' D rM mv ml:=by
 refine⟨hk.blk h.blk (Ne.symm hne),h.lo,Nat.le_trans h.hd hk.size,h.len,fun c h1 h2=>?_,h.ap⟩;have ho:=h.own c h1 h2;have hlt:=ho.lt;refine⟨ho.1,ho.2.imp id ?_⟩;rintro⟨g',cap,cur,hv,hge,hh,r⟩;have e:mv[c].ownBlock=some g':=by rw[hv];rfl
 have:=hlt g' e;exact⟨g',cap,cur,hv,hge,(hk.block g' (by omega) (by omega)).trans hh,r⟩
theorem Mems.grown (h:Mems w D rM mv ml) {c:Nat} (hc:c<mv.length) {v2:Value} {l:List Nat} (ho:OwnRow intL w2 D 3 v2 l) (hg:w.grownBy w2 (mv[c]).ownBlock) (hat:v2.ownBlock=(mv[c]).ownBlock\/v2.ownBlock=some w.heap.size):
 Mems (w2.setCell ⟨rM,c,none⟩ v2) D rM (mv.set c v2) (ml.set c l):=by
 have hcl:c<ml.length:=by rw[<-h.len];exact hc
 have hlo:=h.lo;have hsz:=hg.size;have hb2:Blk w2 rM 33 mv.toArray:=h.blk.grown hg (fun e=>by have:=((h.own c hc hcl).lt rM e.symm).1;omega);have hap:∀c' (h1:c'<mv.length),c'≠c->∀k,v2.ownBlock=some k->mv[c'].ownBlock≠some k:=by
  intro c' h1 hne k e e2;rcases hat with h3|h3
  ·exact h.ap c' c h1 hc hne k e2 (h3.symm.trans e)
  ·have:=((h.own c' h1 (by rw[<-h.len];exact h1)).lt k e2).2;rw[h3]at e;injection e with e;omega
 refine⟨?_,hlo,?_,by simp[h.len],?_,?_⟩
 ·have:=hb2.set_ c v2;simpa using this
 ·have:=h.hd;simp[World.setCell];omega
 ·intro c' h1 h2;simp only[List.length_set]at h1 h2;by_cases hcc:c'=c
  ·subst hcc;simp only[List.getElem_set_self];exact ho.setCell (p:=⟨rM,c',none⟩) (fun e=>by have:=(ho.lt _ e).1;simp only at this;omega) _
  ·simp only[List.getElem_set_ne (Ne.symm hcc)];have h3:=h.own c' h1 h2;have h4:=h3.off hg (fun k e e2=>h.ap c' c h1 hc hcc k e e2.symm);exact h4.setCell (p:=⟨rM,c,none⟩) (fun e=>by have:=(h3.lt _ e).1;simp only at this;omega) _
 ·intro c1 c2 h1 h2 hne k e;simp only[List.length_set]at h1 h2;by_cases h3:c1=c
  ·grind
  ·simp only[List.getElem_set_ne (Ne.symm h3)]at e;by_cases h4:c2=c
   ·grind
   ·simp only[List.getElem_set_ne (Ne.symm h4)];exact h.ap c1 c2 h1 h2 hne k e
theorem Mems.grownKB {w4:World} (h:Mems w D rM mv ml) (hk:KB rM w4 w) (hD:w4.heap.size=D) {c:Nat} (hc:c<mv.length) (v2:Value) (hg:w.grownBy w2 (mv[c]).ownBlock):
 KB rM w4 (w2.setCell ⟨rM,c,none⟩ v2):=by
 have hcl:c<ml.length:=by rw[<-h.len];exact hc
 have hb:Below D w w2:=(h.own c hc hcl).grown_below hg h.hd;refine KB.set ⟨hb.os.trans hk.os,hb.tape.trans hk.tape,hb.output.trans hk.output,Nat.le_trans hk.size hb.size,fun k h1 h2=>(hb.block k (by omega)).trans (hk.block k h1 h2)⟩ _ _
theorem Mems.at_ (h:Mems w D rM mv ml) {c:Nat} (hc:c<ml.length):∃A cap,mv[c]? =some (.slice A (ml[c]).length cap)/\w.cell? ⟨rM,c,none⟩=some (.slice A (ml[c]).length cap)/\RowAt intL w w.heap.size A ml[c]:=by
 have hcv:c<mv.length:=by rw[h.len];exact hc
 obtain⟨A,cap,hv,hr⟩:=(h.own c hcv hc).form;refine⟨A,cap,by rw[List.getElem?_eq_getElem hcv,hv],?_,hr⟩;rw[h.blk.cell];simp[List.getElem?_eq_getElem hcv,hv]
theorem Mems.row (h:Mems w D rM mv ml) {c:Nat} (hc:c<ml.length) {A:Option Addr} {n cap:Nat} (e:mv[c]? =some (.slice A n cap)):RowAt intL w w.heap.size A ml[c]:=by
 obtain⟨A',cap',h1,_,h2⟩:=h.at_ hc;rw[h1]at e;injection e with e
 injection e with e _ _
 subst e;exact h2
end
theorem zie (inn:Nat->Int) (i c:Nat):members inn (i+1) c=if inn i=(c:Int)then members inn i c++[i]else members inn i c:=by
 unfold members;rw[List.range_succ,List.filter_append];by_cases h:inn i=(c:Int)<;>simp[h]
def memsL (inn:Nat->Int) (i m:Nat):List (List Nat):=(List.range m).map (fun c=>members inn i c)
theorem zci (inn:Nat->Int) (i m:Nat):(memsL inn i m).length=m:=by simp[memsL]
theorem zmf (inn:Nat->Int) (m:Nat):memsL inn 0 m=List.replicate m []:=by
 unfold memsL;apply List.ext_getElem
 ·simp
 ·intro i h1 h2;simp[members]
theorem zcj (inn:Nat->Int) (i m c:Nat) (h:c<(memsL inn i m).length):(memsL inn i m)[c]=members inn i c:=by simp[memsL]
theorem zmg (inn:Nat->Int) (i m c:Nat) (h:inn i=(c:Int)):memsL inn (i+1) m=(memsL inn i m).set c (members inn i c++[i]):=by
 apply List.ext_getElem
 ·simp[memsL]
 ·intro k h1 h2;rw[zcj,zie];by_cases hk:k=c
  ·grind
  ·rw[List.getElem_set_ne (Ne.symm hk),if_neg (by omega),zcj]
theorem ze4 (inn:Nat->Int) (i c:Nat):(members inn i c).length<=i:=by
 unfold members;exact Nat.le_trans (List.length_filter_le _ _) (by simp)
theorem zmh (inn:Nat->Int) (n c:Nat):∀x∈members inn n c,x<n:=by
 intro x hx;unfold members at hx;exact List.mem_range.1 (List.mem_filter.1 hx).1
def Sml (M:Nat) (p:List Nat×Bool):Prop:=∀k,p.1.getD k 0<=M
theorem Sml.step {M:Nat} {inn:Nat->Int} {c:Nat} {p:List Nat×Bool} (h:Sml M p) (x:Nat):Sml M (dstep inn c p x):=by
 unfold dstep;split
 ·exact h
 ·intro k;show(p.1.set c _).getD k 0<=M;by_cases hk:c=k
  ·subst hk;by_cases hl:c<p.1.length
   ·rw[za1 _ _ _ _ hl];have:=h c;have:=h (inn x).toNat;omega
   ·grind
  ·rw[Gr.getD_set_ne _ _ _ _ _ hk];exact h k
theorem Sml.fold {M:Nat} {inn:Nat->Int} {c:Nat} (L:List Nat):∀{p:List Nat×Bool},Sml M p->Sml M (L.foldl (dstep inn c) p):=by
 induction L with
 |nil=>intro p h;exact h
 |cons x L ih=>intro p h;rw[List.foldl_cons];exact ih (h.step x)
theorem Sml.foldM {M:Nat} {inn:Nat->Int} {c:Nat} (sc:Nat->List Nat) (L:List Nat):∀{p:List Nat×Bool},Sml M p->Sml M (L.foldl (fun p i=>(sc i).foldl (dstep inn c) p) p):=by
 induction L with
 |nil=>intro p h;exact h
 |cons x L ih=>intro p h;rw[List.foldl_cons];exact ih (h.fold _)
theorem zox (inn:Nat->Int) (c:Nat) (p:List Nat×Bool) (x:Nat):(dstep inn c p x).1.length=p.1.length:=by
 unfold dstep;split<;>simp
theorem ze5 (inn:Nat->Int) (c:Nat) (L:List Nat):∀p:List Nat×Bool,(L.foldl (dstep inn c) p).1.length=p.1.length:=by
 induction L with
 |nil=>intro p;rfl
 |cons x L ih=>intro p;rw[List.foldl_cons,ih,zox]
theorem zdz (inn:Nat->Int) (c:Nat) (sc:Nat->List Nat) (L:List Nat):∀p:List Nat×Bool,(L.foldl (fun p i=>(sc i).foldl (dstep inn c) p) p).1.length=p.1.length:=by
 induction L with
 |nil=>intro p;rfl
 |cons x L ih=>intro p;rw[List.foldl_cons,ih,ze5]
theorem zoy (sc:Nat->List Nat) (inn:Nat->Int) (n:Nat) (sizes:List Nat) (p:List Nat×Bool) (c:Nat):(dcomp sc inn n sizes p c).1.length=p.1.length:=by
 unfold dcomp;simp[zdz]
theorem zf6 (sc:Nat->List Nat) (inn:Nat->Int) (n:Nat) (sizes:List Nat) (L:List Nat):∀p:List Nat×Bool,(L.foldl (dcomp sc inn n sizes) p).1.length=p.1.length:=by
 induction L with
 |nil=>intro p;rfl
 |cons x L ih=>intro p;rw[List.foldl_cons,ih,zoy]
theorem Sml.comp {M N:Nat} {sc:Nat->List Nat} {inn:Nat->Int} {n:Nat} {sizes:List Nat} {p:List Nat×Bool} (h:Sml M p) (c:Nat) (hN:∀k,sizes.getD k 0<=N):Sml (M+N) (dcomp sc inn n sizes p c):=by
 unfold dcomp;have h1:=h.foldM (inn:=inn) (c:=c) sc (members inn n c);obtain⟨q,hq⟩:=ex ((members inn n c).foldl (fun p i=>(sc i).foldl (dstep inn c) p) p)
 rw[hq]at h1;rw[hq];intro k;show(q.1.set c _).getD k 0<=_;have:=h1 k;by_cases hk:c=k
 ·grind
 ·grind
theorem Sml.comps {N:Nat} {sc:Nat->List Nat} {inn:Nat->Int} {n:Nat} {sizes:List Nat} {p:List Nat×Bool} (h:Sml 0 p) (hN:∀k,sizes.getD k 0<=N) (k:Nat):Sml (k*N) ((List.range k).foldl (dcomp sc inn n sizes) p):=by
 induction k with
 |zero=>simpa using h
 |succ k ih=>
  rw[List.range_succ,List.foldl_append,Nat.add_mul,Nat.one_mul];exact ih.comp k hN
open Lib (hid)
set_option maxRecDepth 100000
set_option maxHeartbeats 16000000
structure DepF (w:World) (gb rC rB:Nat) (A Az:Option Addr) (c:Nat) (root:Int) (vs:List NV) (ns:List Gr.Nd) (inn:List Int) (sizes:List Nat):Prop where
 bg:Blk w gb 24 #[.slice A ns.length c,.int .i64 root]
 lg:gb<rB
 bc:Blk w rC 3 (jcells inn)
 lc:rC<rB
 rz:RowAt intL w rB Az sizes
 at_:GAt w rB A vs ns
theorem DepF.below {w w':World} {gb rC rB:Nat} {A Az:Option Addr} {c:Nat} {root:Int} {vs:List NV} {ns:List Gr.Nd} {inn:List Int} {sizes:List Nat} (h:DepF w gb rC rB A Az c root vs ns inn sizes) (hb:Below rB w w'):DepF w' gb rC rB A Az c root vs ns inn sizes:=
 ⟨h.bg.below hb h.lg,h.lg,h.bc.below hb h.lc,h.lc,h.rz.below hb,h.at_.below hb⟩
theorem zvd (t:Gr.TS) (v:Nat):t.cn v=t.inn.getD v (-1):=rfl
theorem zdl (A:Option Addr) (c root:Nat) (vs:List NV) (ns:List Gr.Nd) (hr:Refs ns) (hl:ns.length<=1073741823) (hks:∀n∈ns,n.keys.length<=1073741823/\n.items.length<=1073741823) (hroot:root<ns.length)
 (hall:∀v,v<ns.length->Gr.Reach (Gr.succ ns) root v) (w:World) (h:GAt w w.heap.size A vs ns):
 Calls prog 39 #[.agg #[.slice A ns.length c,.int .i64 root]] w fun e w'=>e=.returned (.tuple #[.int .i64 (depth ns root).1,.bool (depth ns root).2])/\Below w.heap.size w w':=by
 obtain⟨hC,hCl,hCz⟩:=zks hr.succ root hroot hall;have HC:=hid hC;have H:=hid h;have HCOMP:=hid (fun W hW=>zfu A c root vs ns hr hl hks hroot W (h.below hW|>.more hW.size));obtain⟨t,ht⟩:=ex (tcomp (Gr.succ ns) ns.length root)
 rw[ht]at hCl hCz HC;have HT:=hid ht;obtain⟨m,hm⟩:=ex t.sizes.length
 have HM:=hid hm;rw[hm]at hCz;have hml:m<=1073741823:=by omega
 have hmk:=fun W=>zb0 m (by omega) W
 have hms:=fun W=>zjk m (by omega) W
 have hrI:(root:Int)<(ns.length:Int):=by omega
 have HCL:=hid hCl;have HCZ:=hid hCz;clear h hC ht hm hCl hCz;go_enter func39,ntmps39;go_upto_region 1 with fail;obtain⟨w1,hw1⟩:=ex (w.alloc (.cells #[.slice A ns.length c,.int .i64 root] 24))
 (try rw[hw1]);have l1:Below w.heap.size w w1:=by rw[<-hw1];exact(Below.refl _ _).alloc (Nat.le_refl _) _
 have b1:Blk w1 w.heap.size 24 #[.slice A ns.length c,.int .i64 root]:=by rw[<-hw1];exact Blk.new _ _ _
 obtain⟨gb,hgb⟩:=ex w.heap.size
 have HGB:=hid hgb;have L1:=hid l1;(try rw[hgb]);rw[hgb]at b1;have HB1:=hid b1;obtain⟨g0,g1⟩:=cells2 b1;have HCW:=hid (HCOMP.out w1 l1);clear hw1 hgb l1 b1;go_wp2_with fail;refine HCW.out.mono ?_;rintro e w2 ⟨rC,Az,cz,rfl,h1,h2,h3,h4⟩;rw[HT.out]at h3 h4 ⊢;rw[HM.out]at h4 ⊢;obtain⟨Az',cz',hAz,hrz⟩:=h4.form;rw[HM.out]at hAz;injection hAz with e1 _ e2
 subst e1;subst e2;obtain⟨rB,hrB⟩:=ex w2.heap.size
 have hlo:gb<rB:=by have:=h2.size;have:=HB1.out.lt;omega
 have HF2:Hid (DepF w2 gb rC rB A Az c root vs ns t.inn t.sizes):=hid ⟨HB1.out.below h2 HB1.out.lt,hlo,h3,by have:=h3.lt;omega,by rw[<-hrB];exact hrz,(H.out.below (L1.out.trans (h2.mono (by have:=L1.out.size;omega)))).more (by have:=HGB.out;omega)⟩;have HL2:Hid (Below w.heap.size w w2):=hid (L1.out.trans (h2.mono L1.out.size));clear h1 h2 h3 h4 g0 g1 hrz;go_upto_region 5 with fail;obtain⟨w4,hw4⟩:=ex ((w2.alloc (.cells (icells (List.replicate m 0)) 3)).alloc (.cells (Array.replicate m (Value.slice none 0 0)) 33))
 have l4:Below rB w2 w4:=by rw[<-hw4,<-hrB];exact((Below.refl _ _).alloc (Nat.le_refl _) _).alloc (by simp) _
 have hs4:w4.heap.size=rB+1+1:=by rw[<-hw4];simp[hrB]
 have b4:Blk w4 rB 3 (icells (List.replicate m 0)):=by rw[<-hw4,<-hrB];exact(Blk.new _ _ _).alloc _
 have m4:Blk w4 (rB+1) 33 (Array.replicate m (Value.slice none 0 0)):=by
  rw[<-hw4,<-hrB];have:=Blk.new (w2.alloc (.cells (icells (List.replicate m 0)) 3)) 33 (Array.replicate m (Value.slice none 0 0));rw[World.size_alloc]at this;exact this
 obtain⟨rM,hrM⟩:=ex (rB+1)
 rw[hrM]at m4 hs4;obtain⟨D,hD⟩:=ex (rM+1)
 rw[hD]at hs4;have HLO:Hid (gb<rB/\rB<rM/\rM<D/\w4.heap.size=D/\w.heap.size=gb):=hid ⟨hlo,by omega,by omega,hs4,HGB.out⟩;have HF4:=hid (HF2.out.below l4);have HL4:Hid (Below w.heap.size w w4):=hid (HL2.out.trans (l4.mono (by rw[HGB.out];omega)));have HB4:=hid b4;have HME:Hid (Mems w4 D rM (List.replicate m (.slice none 0 0)) (List.replicate m [])):=hid (Mems.start (by simpa using m4) (by omega) (by omega));rw[hrM,hw4];have hci:=fun v (hv:v<ns.length)=>HC.out.rng v hv
 have HCI:=hid hci;clear hw4 hrB l4 hs4 b4 m4 hrM hD hlo hci hmk hms;go_upto_region 6 with fail;go_loopw [31] (fun s31 wr=>∃i:Nat,i<=ns.length/\s31=.int .i64 i/\Hid (KB rM w4 wr/\∃mv,Mems wr D rM mv (memsL t.cn i m))) (fun s31 _=>ns.length-(intOf s31).toNat)
 case atStart=>exact⟨0,by omega,rfl,hid ⟨KB.refl _ _,_,by rw[zmf];exact HME.out⟩⟩
 case round=>
  obtain⟨i,hi,rfl,HW⟩:=hrel;by_cases hlt:i<ns.length
  ·have hltI:(i:Int)<(ns.length:Int):=by omega
   obtain⟨hk,mv,hM⟩:=HW.out;obtain⟨hc0,hc1⟩:=HCI.out i hlt;obtain⟨cc,hcc⟩:∃cc:Nat,t.cn i=(cc:Int):=⟨(t.cn i).toNat,by omega⟩
   rw[hcc,HM.out]at hc1;have hccm:cc<m:=by omega
   have hccI:(cc:Int)<(m:Int):=by omega
   have hmv:cc<mv.length:=by rw[hM.len,zci];exact hccm
   have y0:wr.cell? ⟨rC,i,none⟩=some (.int .i64 (cc:Int)):=by
    have:=((HF4.out.below (hk.below (by have:=HLO.out;omega) (by have:=HLO.out;omega))).bc).cell i;rw[this,zb3 (by rw[HCL.out];exact hlt),<-zvd,hcc]
   have hc2:cc<(memsL t.cn i m).length:=by rw[zci];exact hccm
   obtain⟨Ac,capc,hme,z0,hra⟩:=hM.at_ hc2;have hov:=hM.own cc hmv hc2;have hmvc:mv[cc]=.slice Ac (memsL t.cn i m)[cc].length capc:=by
    have h1:=hM.blk.cell cc;rw[z0]at h1;simpa[List.getElem?_eq_getElem hmv]using h1.symm
   rw[zcj]at z0 hov hmvc;clear hra hme hc2;have hml2:=ze4 t.cn i cc;obtain⟨L,hL⟩:=ex (members t.cn i cc)
   rw[hL]at z0 hov hml2 hmvc;rw[hmvc]at hov;have HLL:Hid (memsL t.cn (i+1) m=(memsL t.cn i m).set cc (L++[i])):=hid (by rw[zmg _ _ _ _ hcc,hL]);have zf:∀j,wr.frozen? ⟨rM,j,none⟩=false:=hM.blk.frozen;have HOV:=hid hov;have HMM:Hid (∃hmv:cc<mv.length,KB rM w4 wr/\Mems wr D rM mv (memsL t.cn i m)/\mv[cc]=.slice Ac L.length capc):=hid ⟨hmv,hk,hM,hmvc⟩;have HLH:Hid (D<=wr.heap.size/\L.length+1<=1073741823):=hid ⟨hM.hd,by omega⟩;clear hk hM hc0 hc1 hcc hmv hov hmvc hml2 hL;go_upto_region 8 with fail;clear y0;go_wp2_with (at_builtin;go_must (refine zac _ rfl (.tmp 41) (.tmp 43) 33 3 8 rfl intT D (.slice Ac L.length capc) L rfl (HOV.out.alloc _) _ _ 1 [i] rfl (RowAt.lit1 _ _ rfl _ ?_) ?_ ?_ ?_))
   any_goals (first|rfl| (have:=HLH.out;omega)| (have:=HLH.out;simp;omega)| (rw[World.size_alloc];have:=HLH.out;omega))
   intro v' w3 hown hg hat;obtain⟨hmv,hk,hM,hmvc⟩:=HMM.out;have hMa:=hM.alloc (.cells #[.int .i64 i] 3);rw[<-hmvc]at hg hat;have hM2:=hMa.grown hmv hown hg (by rw[World.size_alloc];exact hat);have hk2:=hMa.grownKB (hk.alloc _) HLO.out.2.2.2.1 hmv v' hg;have hb3:Blk w3 rM 33 mv.toArray:=hMa.blk.grown hg (fun e=>by have:=((hMa.own cc hmv (by rw[zci];omega)).lt rM e.symm).1;have:=HLO.out;omega);have pc3:w3.cell? ⟨rM,cc,none⟩=some mv[cc]:=by rw[hb3.cell];simp[List.getElem?_eq_getElem hmv]
   rw[hmvc]at pc3;have pf3:∀j,w3.frozen? ⟨rM,j,none⟩=false:=hb3.frozen;obtain⟨g3,cap3,hv3,_⟩:=hown.shape (by simp);obtain⟨n3,hn3⟩:=ex ((L++[i]).length)
   rw[hn3]at hv3;subst hv3;have HNX:Hid (KB rM w4 (w3.setCell ⟨rM,cc,none⟩ (.slice (some ⟨g3,0,none⟩) n3 cap3))/\∃mv,Mems (w3.setCell ⟨rM,cc,none⟩ (.slice (some ⟨g3,0,none⟩) n3 cap3)) D rM mv (memsL t.cn (i+1) m)):=hid ⟨hk2,_,by rw[HLL.out];exact hM2⟩;clear hmvc hk hM hMa hown hg hat hM2 hk2 hb3 hn3 z0 zf hmv;go_wp2;go_roundw
   case rel=>exact⟨i+1,by omega,by go_num,HNX⟩
   case measure=>simp[intOf];omega
  ·have hltI:¬((i:Int)<(ns.length:Int)):=by omega
   have hie:i=ns.length:=by omega
   obtain⟨hk,mv,hM⟩:=HW.out;rw[hie]at hM;obtain⟨wl,hwl⟩:∃wl,wl=wr:=⟨_,rfl⟩
   subst hwl;have HML:Hid (Mems wl D rM mv (memsL t.cn ns.length m)):=hid hM;have HFL:Hid (DepF wl gb rC rB A Az c root vs ns t.inn t.sizes):=hid (HF4.out.below (hk.below (by have:=HLO.out;omega) (by have:=HLO.out;omega)));have HLL:Hid (Below w.heap.size w wl/\D<=wl.heap.size):=hid ⟨HL4.out.trans (hk.below (by have:=HLO.out;omega) (by have:=HLO.out;omega)),hM.hd⟩;have HBL:Hid (Blk wl rB 3 (icells (List.replicate m 0))):=hid (hk.blk HB4.out (by have:=HLO.out;omega));clear hk hM HW hie hi hlt;go_upto_region 11 with fail;clear hltI;go_loopw [6,49] (fun s6 s49 wr=>∃(k:Nat) (p:List Nat×Bool),k<=m/\s49=.int .i64 k/\s6=.bool p.2/\Hid (p=(List.range k).foldl (dcomp (Gr.succ ns) t.cn ns.length t.sizes) (List.replicate m 0,true)/\KB rB wl wr/\Blk wr rB 3 (icells p.1))) (fun _ s49 _=>m-(intOf s49).toNat)
   case atStart=>exact⟨0,(List.replicate m 0,true),by omega,rfl,rfl,hid ⟨rfl,KB.refl _ _,HBL.out⟩⟩
   case round=>
    obtain⟨k,p,hk,rfl,rfl,HW⟩:=hrel;obtain⟨wq,hwq⟩:∃wq,wq=wr:=⟨_,rfl⟩
    subst hwq;by_cases hlt:k<m
    ·have hltI:(k:Int)<(m:Int):=by omega
     have hM:=HML.out.kb HW.out.2.1 (by have:=HLO.out;omega) (by have:=HLO.out;omega);obtain⟨Ak,capk,hmv,z0,hrk⟩:=hM.at_ (c:=k) (by rw[zci];exact hlt);clear hrk;rw[zcj]at z0 hmv;have HRK:Hid (∀W,KB rB wl W->RowAt intL W W.heap.size Ak (members t.cn ns.length k)):=hid (fun W hW=>by
      have:=(HML.out.kb hW (by have:=HLO.out;omega) (by have:=HLO.out;omega)).row (c:=k) (by rw[zci];exact hlt) hmv;rwa[zcj]at this)
     clear hmv;have hML:=ze4 t.cn ns.length k;have HLI:Hid (∀x∈members t.cn ns.length k,x<ns.length):=hid (zmh t.cn ns.length k);have HDC:Hid (dcomp (Gr.succ ns) t.cn ns.length t.sizes p k=((((members t.cn ns.length k).foldl (fun p i=>(Gr.succ ns i).foldl (dstep t.cn k) p) p).1.set k (((members t.cn ns.length k).foldl (fun p i=>(Gr.succ ns i).foldl (dstep t.cn k) p) p).1.getD k 0+t.sizes.getD k 0)),((members t.cn ns.length k).foldl (fun p i=>(Gr.succ ns i).foldl (dstep t.cn k) p) p).2)):=hid rfl;obtain⟨Lk,hLk⟩:=ex (members t.cn ns.length k)
     rw[hLk]at z0 HRK hML HLI HDC;have hsN:∀j,t.sizes.getD j 0<=ns.length:=fun j=>by
      by_cases hj:j<t.sizes.length
      ·rw[HC.out.cnt j hj];exact Nat.le_trans List.countP_le_length (by simp)
      ·simp[List.getD_eq_getElem?_getD,List.getElem?_eq_none (Nat.le_of_not_lt hj)]
     have HSN:=hid hsN;have hpl:p.1.length=m:=by rw[HW.out.1,zf6];simp
     have hsm:Sml (k*ns.length) p:=by
      rw[HW.out.1];refine Sml.comps (fun j=>?_) hsN k;simp[List.getD_eq_getElem?_getD,List.getElem?_replicate];split<;>simp
     obtain⟨M,hMM⟩:=ex (k*ns.length)
     rw[hMM]at hsm;have HMB:Hid (M<=1152921504606846976):=hid (by rw[<-hMM];exact Nat.le_trans (Nat.mul_le_mul (show k<=1073741824 by omega) (show ns.length<=1073741824 by omega)) (by decide));have HPL:=hid hpl;have HSM:=hid hsm;clear hM hLk hsN hpl hsm hMM;go_upto_region 14 with fail;clear z0;go_loopw [6,57] (fun s6 s57 wr=>∃(j:Nat) (q:List Nat×Bool),j<=Lk.length/\s57=.int .i64 j/\s6=.bool q.2/\Hid (q=(Lk.take j).foldl (fun p i=>(Gr.succ ns i).foldl (dstep t.cn k) p) p/\KB rB wl wr/\Blk wr rB 3 (icells q.1))) (fun _ s57 _=>Lk.length-(intOf s57).toNat)
     case atStart=>exact⟨0,p,by omega,rfl,rfl,hid ⟨rfl,HW.out.2.1,HW.out.2.2⟩⟩
     case round=>
      obtain⟨j,q,hj,rfl,rfl,HV⟩:=hrel;obtain⟨wv,hwv⟩:∃wv,wv=wr:=⟨_,rfl⟩
      subst hwv;by_cases hjl:j<Lk.length
      ·have hjlI:(j:Int)<(Lk.length:Int):=by omega
       obtain⟨i,hi⟩:=ex (Lk[j])
       have hin:i<ns.length:=by rw[<-hi];exact HLI.out _ (List.getElem_mem hjl)
       obtain⟨adk,rfl,hadk,y0⟩:=zae (HRK.out _ HV.out.2.1) hjl;rw[hi]at y0;have hFv:=HFL.out.below (HV.out.2.1.below (B:=rB) (Nat.le_refl _) (by have:=HLL.out;have:=HLO.out;omega));have g0:wv.cell? ⟨gb,0,none⟩=some (.slice A ns.length c):=hFv.bg.cell 0;obtain⟨ad,ks,is,rfl,hN⟩:=hFv.at_.node hin;obtain⟨ka,kn,kc⟩:=ks;obtain⟨ia,inn,ic⟩:=is;have hnm:ns[i]∈ns:=List.getElem_mem hin;obtain⟨hkl,hil⟩:=hks _ hnm;have hsc:Gr.succ ns i=ns[i].keys++ns[i].items:=by unfold Gr.succ;rw[List.getElem?_eq_getElem hin]
       have HRF:Hid (∀x∈ns[i].keys++ns[i].items,x<ns.length):=hid (hr _ hnm);obtain⟨n,hn⟩:=ex (ns[i])
       rw[hn]at hN hkl hil hsc HRF;obtain rfl:kn=n.keys.length:=hN.kn;obtain rfl:inn=n.items.length:=hN.inn;have x3:=hN.c3;have x4:=hN.c4;have HTK:Hid ((Lk.take (j+1)).foldl (fun p i=>(Gr.succ ns i).foldl (dstep t.cn k) p) p=(n.keys++n.items).foldl (dstep t.cn k) q):=hid (by
        rw[zaj _ _ hjl,List.foldl_append,<-HV.out.1,hi,List.foldl_cons,List.foldl_nil,hsc])
       have HKI:Hid (RowAt intL wv rB ka n.keys/\RowAt intL wv rB ia n.items):=hid ⟨hN.keys,hN.items⟩;have hinI:(i:Int)<(ns.length:Int):=by omega
       clear hFv hN hnm hsc hn hi;go_upto_region 16 with fail;go_region_held3 (fun w'=>w'.cell? ⟨gb,0,none⟩=some (.slice (some ad) ns.length c)/\w'.cell? {block:=(ad.add (i*5)).block,off:=(ad.add (i*5)).off+3}=some (.slice ka n.keys.length kc)/\w'.cell? {block:=(ad.add (i*5)).block,off:=(ad.add (i*5)).off+4}=some (.slice ia n.items.length ic)) (go_keep) (fail);go_upto_region 17 with fail;clear x3 x4 g0 y0;obtain⟨w5,hw5⟩:=ex ((wv.alloc (.cells #[.slice ka n.keys.length kc,.slice ia n.items.length ic] 33)).drew)
       obtain⟨lb,hlb⟩:=ex wv.heap.size
       have b5:Blk w5 lb 33 #[.slice ka n.keys.length kc,.slice ia n.items.length ic]:=by rw[<-hw5,<-hlb];exact(Blk.new _ _ _).drew
       have k5:KB rB wv w5:=by rw[<-hw5];exact((KB.refl _ _).alloc _).drewN 1
       have HLB:Hid (rB<lb/\rB<=wv.heap.size):=hid ⟨by have:=HV.out.2.2.lt;omega,Nat.le_of_lt HV.out.2.2.lt⟩;have HB5:Hid (KB rB wl w5/\Blk w5 rB 3 (icells q.1)/\Blk w5 lb 33 #[.slice ka n.keys.length kc,.slice ia n.items.length ic]):=hid ⟨HV.out.2.1.trans k5,by rw[<-hw5];exact(HV.out.2.2.alloc _).drew,b5⟩;have HKI5:Hid (RowAt intL w5 rB ka n.keys/\RowAt intL w5 rB ia n.items):=hid ⟨HKI.out.1.below (k5.below (Nat.le_refl _) HLB.out.2),HKI.out.2.below (k5.below (Nat.le_refl _) HLB.out.2)⟩;rw[hw5,hlb];clear hw5 b5 k5 hlb;go_loopw [6,75] (fun s6 s75 wr=>∃(r:Nat) (q2:List Nat×Bool),r<=2/\s75=.int .i64 r/\s6=.bool q2.2/\Hid (q2=(if r=0 then[]else if r=1 then n.keys else n.keys++n.items).foldl (dstep t.cn k) q/\KB rB w5 wr/\Blk wr rB 3 (icells q2.1)/\Blk wr lb 33 #[.slice ka n.keys.length kc,.slice ia n.items.length ic])) (fun _ s75 _=>2-(intOf s75).toNat)
       case atStart=>exact⟨0,q,by omega,rfl,rfl,hid ⟨rfl,KB.refl _ _,HB5.out.2⟩⟩
       case round=>
        obtain⟨r,q2,hr2,rfl,rfl,HR⟩:=hrel;obtain⟨wx,hwx⟩:∃wx,wx=wr:=⟨_,rfl⟩
        subst hwx;by_cases hrl:r<2
        ·have hrlI:(r:Int)<2:=by omega
         obtain⟨Ax,Lx,cx,e1,HX⟩:∃Ax Lx cx,wx.cell? ⟨lb,r,none⟩=some (.slice Ax (Lx:List Nat).length cx)/\Hid (RowAt intL w5 rB Ax Lx/\(if r+1=0 then[]else if r+1=1 then n.keys else n.keys++n.items)=(if r=0 then[]else if r=1 then n.keys else n.keys++n.items)++Lx/\(∀x∈Lx,x<ns.length)/\Lx.length<=1073741823):=by
          obtain rfl|rfl:r=0\/r=1:=by omega
          ·exact⟨ka,n.keys,kc,HR.out.2.2.2.cell 0,hid ⟨HKI5.out.1,by simp,fun x hx=>HRF.out x (List.mem_append_left _ hx),hkl⟩⟩
          ·exact⟨ia,n.items,ic,HR.out.2.2.2.cell 1,hid ⟨HKI5.out.2,by simp,fun x hx=>HRF.out x (List.mem_append_right _ hx),hil⟩⟩
         have hxl:=HX.out.2.2.2;go_upto_region 20 with fail;clear e1;go_loopw [6,81] (fun s6 s81 wr=>∃(y:Nat) (q3:List Nat×Bool),y<=Lx.length/\s81=.int .i64 y/\s6=.bool q3.2/\Hid (q3=(Lx.take y).foldl (dstep t.cn k) q2/\KB rB w5 wr/\Blk wr rB 3 (icells q3.1)/\Blk wr lb 33 #[.slice ka n.keys.length kc,.slice ia n.items.length ic])) (fun _ s81 _=>Lx.length-(intOf s81).toNat)
         case atStart=>exact⟨0,q2,by omega,rfl,rfl,hid ⟨rfl,HR.out.2⟩⟩
         case round=>
          obtain⟨y,q3,hy,rfl,rfl,HY⟩:=hrel;by_cases hyl:y<Lx.length
          ·have hylI:(y:Int)<(Lx.length:Int):=by omega
           obtain⟨x,hx⟩:=ex (Lx[y])
           have hxn:x<ns.length:=by rw[<-hx];exact HX.out.2.2.1 _ (List.getElem_mem hyl)
           have hkw5:Below rB w5 wr:=HY.out.2.1.below (Nat.le_refl _) (Nat.le_of_lt HB5.out.2.1.lt);obtain⟨adx,rfl,hadx,y0⟩:=zae (HX.out.1.below hkw5) hyl;rw[hx]at y0;obtain⟨hd0,hd1⟩:=HCI.out x hxn;obtain⟨d,hd⟩:∃d:Nat,t.cn x=(d:Int):=⟨(t.cn x).toNat,by omega⟩
           rw[hd,HM.out]at hd1;have hdI:(d:Int)<(m:Int):=by omega
           have hFr:=(HFL.out.below (HB5.out.1.below (B:=rB) (Nat.le_refl _) (by have:=HLL.out;have:=HLO.out;omega))).below hkw5;have r0:wr.cell? ⟨rC,x,none⟩=some (.int .i64 (d:Int)):=by
            rw[hFr.bc.cell,zb3 (by rw[HCL.out];exact hxn),<-zvd,hd]
           have hxnI:(x:Int)<(ns.length:Int):=by omega
           have HTX:Hid ((Lx.take (y+1)).foldl (dstep t.cn k) q2=dstep t.cn k q3 x):=hid (by rw[zaj _ _ hyl,List.foldl_append,<-HY.out.1,hx];rfl);have hyb:y<=1073741823:=by omega
           by_cases hdk:d=k
           ·have hdkb:((k:Int)==(k:Int))=true:=by simp
            rw[hdk]at r0;have HNX:Hid ((q3.1,false)=(Lx.take (y+1)).foldl (dstep t.cn k) q2/\KB rB w5 wr/\Blk wr rB 3 (icells q3.1)/\Blk wr lb 33 #[.slice ka n.keys.length kc,.slice ia n.items.length ic]):=hid ⟨by rw[HTX.out];unfold dstep;rw[if_pos (by rw[hd,hdk])],HY.out.2⟩;clear hFr hkw5 hd hd0 hd1 hx hdk;go_wp2;go_roundw
            case rel=>exact⟨y+1,(q3.1,false),by omega,by go_num,rfl,HNX⟩
            case measure=>simp[intOf];omega
           ·have hdkb:((d:Int)==(k:Int))=false:=by simp;omega
            have hdkI:¬(d:Int)=(k:Int):=by omega
            obtain⟨a,ha⟩:=ex (q3.1.getD k 0)
            obtain⟨b,hb⟩:=ex (q3.1.getD d 0)
            have hq3:q3.1.length=m:=by rw[HY.out.1,ze5,HR.out.1,ze5,HV.out.1,zdz];exact HPL.out
            have hsm3:Sml M q3:=by rw[HY.out.1];refine Sml.fold _ ?_;rw[HR.out.1];refine Sml.fold _ ?_;rw[HV.out.1];exact Sml.foldM _ _ HSM.out
            have hab:a<=1152921504606846976:=by have:=hsm3 k;have:=HMB.out;omega
            have hbb:b<=1152921504606846976:=by have:=hsm3 d;have:=HMB.out;omega
            have z1:wr.cell? ⟨rB,k,none⟩=some (.int .i64 (a:Int)):=by rw[HY.out.2.2.1.cell,zad (by omega),ha]
            have z2:wr.cell? ⟨rB,d,none⟩=some (.int .i64 (b:Int)):=by rw[HY.out.2.2.1.cell,zad (by omega),hb]
            have zf:∀j,wr.frozen? ⟨rB,j,none⟩=false:=HY.out.2.2.1.frozen;have HNX:∀v:Nat,v=max a b->Hid ((q3.1.set k v,q3.2)=(Lx.take (y+1)).foldl (dstep t.cn k) q2/\KB rB w5 (wr.setCell ⟨rB,k,none⟩ (.int .i64 (v:Int))).drew/\Blk (wr.setCell ⟨rB,k,none⟩ (.int .i64 (v:Int))).drew rB 3 (icells (q3.1.set k v))/\Blk (wr.setCell ⟨rB,k,none⟩ (.int .i64 (v:Int))).drew lb 33 #[.slice ka n.keys.length kc,.slice ia n.items.length ic]):=fun v hv=>hid ⟨by rw[HTX.out];unfold dstep;rw[if_neg (by rw[hd];exact hdkI),hd,ha,show((d:Int)).toNat=d from by omega,hb,hv],(HY.out.2.1.set _ _).drewN 1,by rw[<-zau];exact(HY.out.2.2.1.set_ k _).drew,(HY.out.2.2.2.far (by have:=HLB.out;simp;omega) _).drew⟩
            have HNH:=hid HNX;clear hFr hkw5 hd hd0 hd1 hx hdk HNX hq3 hsm3 ha hb;go_upto_region 24 with fail;by_cases hmx:a<b
            all_goals go_region
            all_goals go_wp2_with fail
            all_goals
             go_roundw
             case rel=>first| (rw[show max (a:Int) (b:Int)=((max a b:Nat):Int)from by omega];exact⟨y+1,(q3.1.set k (max a b),q3.2),by omega,by go_num,rfl,HNH.out (max a b) rfl⟩)|exact⟨y+1,(q3.1.set k a,q3.2),by omega,by go_num,rfl,HNH.out a (by omega)⟩|exact⟨y+1,(q3.1.set k b,q3.2),by omega,by go_num,rfl,HNH.out b (by omega)⟩
             case measure=>simp[intOf];omega
          ·have hylI:¬(y:Int)<(Lx.length:Int):=by omega
           have HNX:Hid (q3=(if r+1=0 then[]else if r+1=1 then n.keys else n.keys++n.items).foldl (dstep t.cn k) q/\KB rB w5 wr/\Blk wr rB 3 (icells q3.1)/\Blk wr lb 33 #[.slice ka n.keys.length kc,.slice ia n.items.length ic]):=hid ⟨by
            rw[HX.out.2.1,List.foldl_append,<-HR.out.1];have:=HY.out.1;rwa[show y=Lx.length from by omega,List.take_length]at this,HY.out.2⟩
           go_wp2;go_roundw
           case rel=>exact⟨r+1,q3,by omega,by go_num,rfl,HNX⟩
           case measure=>simp[intOf];omega
        ·have hrlI:¬(r:Int)<2:=by omega
         have HNX:Hid (q2=(Lk.take (j+1)).foldl (fun p i=>(Gr.succ ns i).foldl (dstep t.cn k) p) p/\KB rB wl wx/\Blk wx rB 3 (icells q2.1)):=hid ⟨by
          have:=HR.out.1;rw[show r=2 from by omega]at this;rw[HTK.out];exact this,HB5.out.1.trans HR.out.2.1,HR.out.2.2.1⟩
         go_wp2;go_roundw
         case rel=>exact⟨j+1,q2,by omega,by go_num,rfl,HNX⟩
         case measure=>simp[intOf];omega
      ·have hjlI:¬(j:Int)<(Lk.length:Int):=by omega
       obtain⟨a,ha⟩:=ex (q.1.getD k 0)
       obtain⟨b,hb⟩:=ex (t.sizes.getD k 0)
       have hq:q=Lk.foldl (fun p i=>(Gr.succ ns i).foldl (dstep t.cn k) p) p:=by
        have:=HV.out.1;rwa[show j=Lk.length from by omega,List.take_length]at this
       have hql:q.1.length=m:=by rw[hq,zdz];exact HPL.out
       have hab:a<=1152921504606846976:=by
        have h1:Sml M q:=by rw[hq];exact Sml.foldM _ _ HSM.out
        have:=h1 k;have:=HMB.out;omega
       have hbb:b<=1073741823:=by have:=HSN.out k;omega
       have hFv:=HFL.out.below (HV.out.2.1.below (B:=rB) (Nat.le_refl _) (by have:=HLL.out;have:=HLO.out;omega));have hkz:k<t.sizes.length:=by rw[HM.out];exact hlt
       have hbe:t.sizes[k]=b:=by rw[<-hb];simp[List.getD_eq_getElem?_getD,List.getElem?_eq_getElem hkz]
       obtain⟨adz,rfl,hadz,z2⟩:=zae hFv.rz hkz;rw[hbe]at z2;have z1:wv.cell? ⟨rB,k,none⟩=some (.int .i64 (a:Int)):=by rw[HV.out.2.2.cell,zad (by omega),ha]
       have zf:∀j,wv.frozen? ⟨rB,j,none⟩=false:=HV.out.2.2.frozen;have HNX:Hid ((q.1.set k (a+b),q.2)=(List.range (k+1)).foldl (dcomp (Gr.succ ns) t.cn ns.length t.sizes) (List.replicate m 0,true)/\KB rB wl (wv.setCell ⟨rB,k,none⟩ (.int .i64 ((a:Int)+(b:Int)))).drew/\Blk (wv.setCell ⟨rB,k,none⟩ (.int .i64 ((a:Int)+(b:Int)))).drew rB 3 (icells (q.1.set k (a+b)))):=hid ⟨by
        rw[List.range_succ,List.foldl_append,<-HW.out.1,List.foldl_cons,List.foldl_nil,HDC.out,<-hq,ha,hb],(HV.out.2.1.set _ _).drewN 1,by
        rw[<-zau,show(((a+b:Nat)):Int)=(a:Int)+(b:Int)from by omega];exact(HV.out.2.2.set_ k _).drew⟩
       clear ha hb hq hql hFv hbe hkz;go_upto_region 28 with fail;go_region
       all_goals go_wp2_with fail
       all_goals
        go_roundw
        case rel=>exact⟨k+1,(q.1.set k (a+b),q.2),by omega,by go_num,rfl,HNX⟩
        case measure=>simp[intOf];omega
    ·have hltI:¬(k:Int)<(m:Int):=by omega
     have hke:k=m:=by omega
     have hFv:=HFL.out.below (HW.out.2.1.below (B:=rB) (Nat.le_refl _) (by have:=HLL.out;have:=HLO.out;omega));obtain⟨hd0,hd1⟩:=HCI.out root hroot;obtain⟨d,hd⟩:∃d:Nat,t.cn root=(d:Int):=⟨(t.cn root).toNat,by omega⟩
     rw[hd,HM.out]at hd1;have hdI:(d:Int)<(m:Int):=by omega
     have r0:wq.cell? ⟨rC,root,none⟩=some (.int .i64 (d:Int)):=by
      rw[hFv.bc.cell,zb3 (by rw[HCL.out];exact hroot),<-zvd,hd]
     have g1:wq.cell? ⟨gb,1,none⟩=some (.int .i64 root):=hFv.bg.cell 1;obtain⟨a,ha⟩:=ex (p.1.getD d 0)
     have hpl:p.1.length=m:=by rw[HW.out.1,zf6];simp
     have z0:wq.cell? ⟨rB,d,none⟩=some (.int .i64 (a:Int)):=by rw[HW.out.2.2.cell,zad (by omega),ha]
     have hsm:Sml (m*ns.length) p:=by
      rw[HW.out.1,<-hke];refine Sml.comps (fun j=>?_) (fun j=>?_) k
      ·simp[List.getD_eq_getElem?_getD,List.getElem?_replicate];split<;>simp
      ·by_cases hj:j<t.sizes.length
       ·rw[HC.out.cnt j hj];exact Nat.le_trans List.countP_le_length (by simp)
       ·simp[List.getD_eq_getElem?_getD,List.getElem?_eq_none (Nat.le_of_not_lt hj)]
     have hab:a<=1152921504606846976:=by
      have:=hsm d;have h2:m*ns.length<=1152921504606846976:=Nat.le_trans (Nat.mul_le_mul (show m<=1073741824 by omega) (show ns.length<=1073741824 by omega)) (by decide);omega
     have HRES:Hid ((depth ns root).1=(a:Int)-1/\(depth ns root).2=p.2):=hid (by
      have hp:p=dall (Gr.succ ns) t.cn ns.length t.sizes:=by rw[HW.out.1,hke];unfold dall;rw[HM.out]
      unfold depth;simp only[HT.out];rw[<-hp,hd,<-ha];exact⟨rfl,rfl⟩)
     have HBW:Hid (Below w.heap.size w wq):=hid (HLL.out.1.trans (HW.out.2.1.below (by have:=HLO.out;omega) (by have:=HLO.out;have:=HLL.out;omega)));clear hke hFv hd0 hd1 hd ha hpl hsm;go_wp2;go_ret2;rw[HRES.out.1,HRES.out.2];exact⟨rfl,HBW.out⟩
theorem zce (x n:Nat) (i j:Int) (hi:i=(x:Int)) (hj:j=(n:Int)) (hx:x<=999999999) (hn:n<=9) (w:World):
 Calls prog 139 #[.int .i64 i,.int .i64 j] w fun e w'=>e=.returned (.string ⟨(Gr.pd n x).toArray⟩)/\Below w.heap.size w w':=by
 subst hi;subst hj;go_enter func139,ntmps139;go_wp2_with fail;go_loopw [0,5,6] (fun s0 s5 s6 wr=>∃k y:Nat,k<=n/\y<=999999999/\s0=.int .i64 (y:Int)/\s5=.string ⟨(Gr.pd k x).toArray⟩/\s6=.int .i64 (k:Int)/\Hid (y=x /10 ^ k/\Below w.heap.size w wr)) (fun _ _ s6 _=>n-(intOf s6).toNat)
 case atStart=>exact⟨0,x,by omega,hx,rfl,rfl,rfl,Lib.hid ⟨by simp,Below.refl _ _⟩⟩
 case round=>
  obtain⟨k,y,hk,hy,rfl,rfl,rfl,HV⟩:=hrel;have hlen:=Gr.za4 k x;by_cases hlt:k<n
  ·have hltI:(k:Int)<(n:Int):=by omega
   obtain⟨c,hc⟩:∃c:UInt8,c=Gr.ch (y%10):=⟨_,rfl⟩
   have hci:(48:Int)+(y:Int)%10=(c.toNat:Int):=by rw[hc];unfold Gr.ch;rw[UInt8.toNat_ofNat'];omega
   have HNX:Hid (Gr.pd (k+1) x=[c]++Gr.pd k x/\y /10=x /10 ^ (k+1)):=Lib.hid ⟨by rw[Gr.zso,<-HV.out.1,<-hc];rfl,by rw[HV.out.1,Nat.div_div_eq_div_mul,Nat.pow_succ]⟩;have hadd:=fun W=>zab [c] (Gr.pd k x) (by rw[hlen];simp;omega) W
   have hcv2:(convert 119 9 (.slice (some ⟨wr.heap.size,0,none⟩) 1 1)).run prog (wr.alloc (.cells #[.int .u8 (c.toNat:Int)] 5))=.ok (.string ⟨[c].toArray⟩) (wr.alloc (.cells #[.int .u8 (c.toNat:Int)] 5)):=zd1 (B:=wr.heap.size+1) (wr.alloc (.cells #[.int .u8 (c.toNat:Int)] 5)) [c] (some ⟨wr.heap.size,0,none⟩) 1 (RowAt.lit1 c _ rfl _ rfl);rw[<-hci]at hcv2;obtain⟨p,hp⟩:=ex (Gr.pd k x)
   rw[hp]at hadd HNX ⊢;have hy10:(0:Int)<=(y:Int)%10:=by omega
   have hy11:(y:Int)%10<=9:=by omega
   clear hci hlen hp hc;go_wp2;go_roundw
   case rel=>exact⟨k+1,y /10,by omega,by omega,by exact congrArg (Value.int .i64) (by omega),by rw[HNX.out.1];rfl,by go_num,Lib.hid ⟨HNX.out.2,HV.out.2.alloc HV.out.2.size _⟩⟩
   case measure=>simp[intOf];omega
  ·obtain rfl:k=n:=by omega
   have hltI:¬(k:Int)<(k:Int):=by omega
   clear hlen;go_wp2;go_ret;exact⟨rfl,HV.out.2⟩
end Go.Proofs.YtoigpackhninoaaGreatDoor

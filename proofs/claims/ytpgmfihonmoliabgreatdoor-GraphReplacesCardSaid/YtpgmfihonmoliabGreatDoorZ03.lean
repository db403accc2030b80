import Derived.Test.YtpgmfihonmoliabGreatDoorZ02
open _root_.Go.RowKit.Below renaming refl->K2
open _root_.Go.Proofs.YtpgmfihonmoliabGreatDoor.Blk renaming new->Q5
open _root_.Bool renaming eq_iff_iff->U1,eq_false_iff->V7
open _root_.Go.Proofs.YtpgmfihonmoliabGreatDoor.Calls renaming grow->Y9
open _root_.Go renaming bodyPost_ret->W6,results_cell_tmp->W7
open _root_.Go.Proofs.YtpgmfihonmoliabGreatDoor.Gr renaming succ->K0,dig->K8,Str->Q0,ch->Y5,Reach->Y8,Nd->U2,val->V0,Dn->V6,Inv->Z1,rz->Z7,norm->W4,dv->W5
open _root_.Int renaming natCast_mul->W0
open _root_.Go.IntWalk renaming i64_in->K5
open _root_.Go.Lib renaming hid->Q9
open _root_.List renaming replicate->K1,take_succ_eq_append_getElem->K4,length_append->Q1,getElem?_eq_getElem->Q2,getElem_mem->Q4,toArray->Q6,take_of_length_le->Q8,takeWhile_append_dropWhile->Y0,length_drop->Y1,foldl_cons->Y2,getElem_set_ne->Y3,drop_eq_nil_of_le->Y6,getElem_drop->X1,foldl_append->X2,take_length->X4,eq_nil_iff_forall_not_mem->X5,take_append_of_le_length->X6,takeWhile_append_of_pos->X9,append_nil->U0,getD_eq_getElem?_getD->U3,drop_zero->U4,drop_eq_getElem_cons->U5,getElem_replicate->U6,length_replicate->U9,takeWhile_cons->V2,length_pos_iff->V3,drop_succ_cons->V4,set_cons_zero->V5,length_take->V8,length_cons->V9,ext_getElem->Z0,range_succ->Z2,length_set->Z3,length_nil->Z4,length_map->Z5,head?_drop->Z6,take_take->Z8,drop_drop->Z9,range->W3
open _root_.Nat renaming le_refl->K3,le_trans->K7,succ_ne_self->Q7,mul_comm->Y4,lt_or_ge->X3,zero_le->X7,add_mul->X8,pow_succ->U7,le_of_lt->U8,mul_assoc->W1,sub_self->W2
open _root_.Option renaming getD_some->Q3
open _root_.Go.Proofs.YtpgmfihonmoliabGreatDoor.OwnRow renaming nil->Y7
open _root_.Go.Proofs.YtpgmfihonmoliabGreatDoor.RowAt renaming lit1->V1
open _root_.Go.World renaming size_alloc->K6,setCell->K9,new_ne->X0
namespace Go.Proofs.YtpgmfihonmoliabGreatDoor
open _root_.Go.Proofs.Tryz
open Go.RowKit
def jcells (m:List Int):Array Value:=(m.map (fun(x:Int)=>Value.int .i64 x)).toArray
theorem zgi (m:List Int) (i:Nat) (x:Int):(jcells m).setIfInBounds i (.int .i64 x)=jcells (m.set i x):=by
 simp[jcells,List.map_set]
theorem zb6 {m:List Int} {i:Nat} (h:i<m.length):(jcells m)[i]? =some (.int .i64 (m.getD i (-1))):=by
 simp[jcells,U3,h]
structure TL where
 bN:Nat
 bI:Nat
 bL:Nat
 bS:Nat
 bO:Nat
 bV:Nat
 bG:Nat
 bZ:Nat
 bC:Nat
 rI:Nat
 rL:Nat
 rC:Nat
 rO:Nat
def TL.args (y:TL) (v:Value):Array Value:=#[v,.pointer (some ⟨y.bN,0,none⟩),.pointer (some ⟨y.bI,0,none⟩),.pointer (some ⟨y.bL,0,none⟩),.pointer (some ⟨y.bS,0,none⟩),.pointer (some ⟨y.bO,0,none⟩),.pointer (some ⟨y.bV,0,none⟩),.pointer (some ⟨y.bG,0,none⟩),.pointer (some ⟨y.bZ,0,none⟩),.pointer (some ⟨y.bC,0,none⟩)]
def TL.fn (y:TL):Value:=.func (.func 63) #[] #[.pointer (some ⟨y.bN,0,none⟩),.pointer (some ⟨y.bI,0,none⟩),.pointer (some ⟨y.bL,0,none⟩),.pointer (some ⟨y.bS,0,none⟩),.pointer (some ⟨y.bO,0,none⟩),.pointer (some ⟨y.bV,0,none⟩),.pointer (some ⟨y.bG,0,none⟩),.pointer (some ⟨y.bZ,0,none⟩),.pointer (some ⟨y.bC,0,none⟩)]
structure TLok (y:TL) (B D:Nat):Prop where
 nI:y.bN≠y.rI
 nL:y.bN≠y.rL
 nC:y.bN≠y.rC
 iL:y.rI≠y.rL
 iC:y.rI≠y.rC
 lC:y.rL≠y.rC
 sI:y.bS≠y.bI
 sL:y.bS≠y.bL
 sC:y.bS≠y.bC
 sZ:y.bS≠y.bZ
 zI:y.bZ≠y.bI
 zL:y.bZ≠y.bL
 zC:y.bZ≠y.bC
 dN:y.bN<D
 dI:y.rI<D
 dL:y.rL<D
 dC:y.rC<D
 dO:y.rO<D
 dS:y.bS<D
 dZ:y.bZ<D
 lo:B<=y.bN/\B<=y.rI/\B<=y.rL/\B<=y.rC/\B<=y.rO/\B<=y.bS/\B<=y.bZ/\B<=D
structure TAt (y:TL) (B D:Nat) (A:Option Addr) (c:Nat) (root:Int) (vs:List NV) (ns:List U2) (w:World) (s:Gr.TS) (sv zv:Value):Prop where
 ok:TLok y B D
 hd:D<=w.heap.size
 xI:Blk w y.bI 35 #[.slice (some ⟨y.rI,0,none⟩) ns.length ns.length]
 xL:Blk w y.bL 35 #[.slice (some ⟨y.rL,0,none⟩) ns.length ns.length]
 xC:Blk w y.bC 35 #[.slice (some ⟨y.rC,0,none⟩) ns.length ns.length]
 xO:Blk w y.bO 44 #[.slice (some ⟨y.rO,0,none⟩) ns.length ns.length]
 xV:Blk w y.bV 70 #[y.fn]
 xG:Blk w y.bG 24 #[.slice A ns.length c,.int .i64 root]
 at_:GAt w B A vs ns
 bN:Blk w y.bN 3 #[.int .i64 (s.next:Int)]
 bS:Blk w y.bS 35 #[sv]
 bZ:Blk w y.bZ 35 #[zv]
 rI:Blk w y.rI 3 (icells s.idx)
 rL:Blk w y.rL 3 (icells s.low)
 rC:Blk w y.rC 3 (jcells s.inn)
 rO:Blk w y.rO 4 (bcells s.on)
 stk:OwnRow intL w D 3 sv s.stk
 siz:OwnRow intL w D 3 zv s.sizes
 apart:∀k,sv.ownBlock=some k->zv.ownBlock≠some k
section
variable {y:TL} {B D:Nat} {A:Option Addr} {c:Nat} {root:Int} {vs:List NV} {ns:List U2} {w w':World} {s:Gr.TS} {sv zv:Value}
theorem TAt.svD (h:TAt y B D A c root vs ns w s sv zv) {k:Nat} (hk:k<D):sv.ownBlock≠some k:=fun e=>by have:=(h.stk.lt k e).1;omega
theorem TAt.zvD (h:TAt y B D A c root vs ns w s sv zv) {k:Nat} (hk:k<D):zv.ownBlock≠some k:=fun e=>by have:=(h.siz.lt k e).1;omega
theorem TAt.later (h:TAt y B D A c root vs ns w s sv zv) (hb:Below w.heap.size w w'):TAt y B D A c root vs ns w' s sv zv:=
 ⟨h.ok,K7 h.hd hb.size,h.xI.below hb h.xI.lt,h.xL.below hb h.xL.lt,h.xC.below hb h.xC.lt,h.xO.below hb h.xO.lt,h.xV.below hb h.xV.lt,h.xG.below hb h.xG.lt,h.at_.below (hb.mono (K7 h.ok.lo.2.2.2.2.2.2.2 h.hd)),
  h.bN.below hb h.bN.lt,h.bS.below hb h.bS.lt,h.bZ.below hb h.bZ.lt,h.rI.below hb h.rI.lt,h.rL.below hb h.rL.lt,h.rC.below hb h.rC.lt,h.rO.below hb h.rO.lt,h.stk.later hb,h.siz.later hb,h.apart⟩
theorem TAt.alloc (h:TAt y B D A c root vs ns w s sv zv) (o:Obj):TAt y B D A c root vs ns (w.alloc o) s sv zv:=h.later ((K2 _ _).alloc (K3 _) o)
theorem TAt.drewN (h:TAt y B D A c root vs ns w s sv zv) (n:Nat):TAt y B D A c root vs ns (w.drewN n) s sv zv:=h.later (below_drewN (K2 _ _) n)
theorem TAt.drew (h:TAt y B D A c root vs ns w s sv zv):TAt y B D A c root vs ns w.drew s sv zv:=h.drewN 1
theorem TAt.setN (h:TAt y B D A c root vs ns w s sv zv) (x:Nat):TAt y B D A c root vs ns (w.setCell ⟨y.bN,0,none⟩ (.int .i64 (x:Int))) {s with next:=x} sv zv:=
 ⟨h.ok,by simp[K9];exact h.hd,(h.xI.far (p:=⟨y.bN,0,none⟩) (h.xI.ne_ h.bN (by decide)) _),(h.xL.far (p:=⟨y.bN,0,none⟩) (h.xL.ne_ h.bN (by decide)) _),(h.xC.far (p:=⟨y.bN,0,none⟩) (h.xC.ne_ h.bN (by decide)) _),(h.xO.far (p:=⟨y.bN,0,none⟩) (h.xO.ne_ h.bN (by decide)) _),(h.xV.far (p:=⟨y.bN,0,none⟩) (h.xV.ne_ h.bN (by decide)) _),(h.xG.far (p:=⟨y.bN,0,none⟩) (h.xG.ne_ h.bN (by decide)) _),(h.at_.below ((K2 _ w).setCell (p:=⟨y.bN,0,none⟩) h.ok.lo.1 _)),(h.bN.set_ 0 _),(h.bS.far (p:=⟨y.bN,0,none⟩) (h.bS.ne_ h.bN (by decide)) _),(h.bZ.far (p:=⟨y.bN,0,none⟩) (h.bZ.ne_ h.bN (by decide)) _),(h.rI.far (p:=⟨y.bN,0,none⟩) h.ok.nI.symm _),(h.rL.far (p:=⟨y.bN,0,none⟩) h.ok.nL.symm _),(h.rC.far (p:=⟨y.bN,0,none⟩) h.ok.nC.symm _),(h.rO.far (p:=⟨y.bN,0,none⟩) (h.rO.ne_ h.bN (by decide)) _),(h.stk.setCell (p:=⟨y.bN,0,none⟩) (h.svD h.ok.dN) _),(h.siz.setCell (p:=⟨y.bN,0,none⟩) (h.zvD h.ok.dN) _),h.apart⟩
theorem TAt.setI (h:TAt y B D A c root vs ns w s sv zv) (v x:Nat):TAt y B D A c root vs ns (w.setCell ⟨y.rI,v,none⟩ (.int .i64 (x:Int))) {s with idx:=s.idx.set v x} sv zv:=
 ⟨h.ok,by simp[K9];exact h.hd,(h.xI.far (p:=⟨y.rI,v,none⟩) (h.xI.ne_ h.rI (by decide)) _),(h.xL.far (p:=⟨y.rI,v,none⟩) (h.xL.ne_ h.rI (by decide)) _),(h.xC.far (p:=⟨y.rI,v,none⟩) (h.xC.ne_ h.rI (by decide)) _),(h.xO.far (p:=⟨y.rI,v,none⟩) (h.xO.ne_ h.rI (by decide)) _),(h.xV.far (p:=⟨y.rI,v,none⟩) (h.xV.ne_ h.rI (by decide)) _),(h.xG.far (p:=⟨y.rI,v,none⟩) (h.xG.ne_ h.rI (by decide)) _),(h.at_.below ((K2 _ w).setCell (p:=⟨y.rI,v,none⟩) h.ok.lo.2.1 _)),(h.bN.far (p:=⟨y.rI,v,none⟩) h.ok.nI _),(h.bS.far (p:=⟨y.rI,v,none⟩) (h.bS.ne_ h.rI (by decide)) _),(h.bZ.far (p:=⟨y.rI,v,none⟩) (h.bZ.ne_ h.rI (by decide)) _),(by have:=h.rI.set_ v (.int .i64 (x:Int));rw[zam]at this;exact this),(h.rL.far (p:=⟨y.rI,v,none⟩) h.ok.iL.symm _),(h.rC.far (p:=⟨y.rI,v,none⟩) h.ok.iC.symm _),(h.rO.far (p:=⟨y.rI,v,none⟩) (h.rO.ne_ h.rI (by decide)) _),(h.stk.setCell (p:=⟨y.rI,v,none⟩) (h.svD h.ok.dI) _),(h.siz.setCell (p:=⟨y.rI,v,none⟩) (h.zvD h.ok.dI) _),h.apart⟩
theorem TAt.setL (h:TAt y B D A c root vs ns w s sv zv) (v x:Nat):TAt y B D A c root vs ns (w.setCell ⟨y.rL,v,none⟩ (.int .i64 (x:Int))) {s with low:=s.low.set v x} sv zv:=
 ⟨h.ok,by simp[K9];exact h.hd,(h.xI.far (p:=⟨y.rL,v,none⟩) (h.xI.ne_ h.rL (by decide)) _),(h.xL.far (p:=⟨y.rL,v,none⟩) (h.xL.ne_ h.rL (by decide)) _),(h.xC.far (p:=⟨y.rL,v,none⟩) (h.xC.ne_ h.rL (by decide)) _),(h.xO.far (p:=⟨y.rL,v,none⟩) (h.xO.ne_ h.rL (by decide)) _),(h.xV.far (p:=⟨y.rL,v,none⟩) (h.xV.ne_ h.rL (by decide)) _),(h.xG.far (p:=⟨y.rL,v,none⟩) (h.xG.ne_ h.rL (by decide)) _),(h.at_.below ((K2 _ w).setCell (p:=⟨y.rL,v,none⟩) h.ok.lo.2.2.1 _)),(h.bN.far (p:=⟨y.rL,v,none⟩) h.ok.nL _),(h.bS.far (p:=⟨y.rL,v,none⟩) (h.bS.ne_ h.rL (by decide)) _),(h.bZ.far (p:=⟨y.rL,v,none⟩) (h.bZ.ne_ h.rL (by decide)) _),(h.rI.far (p:=⟨y.rL,v,none⟩) h.ok.iL _),(by have:=h.rL.set_ v (.int .i64 (x:Int));rw[zam]at this;exact this),(h.rC.far (p:=⟨y.rL,v,none⟩) h.ok.lC.symm _),(h.rO.far (p:=⟨y.rL,v,none⟩) (h.rO.ne_ h.rL (by decide)) _),(h.stk.setCell (p:=⟨y.rL,v,none⟩) (h.svD h.ok.dL) _),(h.siz.setCell (p:=⟨y.rL,v,none⟩) (h.zvD h.ok.dL) _),h.apart⟩
theorem TAt.setC (h:TAt y B D A c root vs ns w s sv zv) (v:Nat) (x:Int):TAt y B D A c root vs ns (w.setCell ⟨y.rC,v,none⟩ (.int .i64 x)) {s with inn:=s.inn.set v x} sv zv:=
 ⟨h.ok,by simp[K9];exact h.hd,(h.xI.far (p:=⟨y.rC,v,none⟩) (h.xI.ne_ h.rC (by decide)) _),(h.xL.far (p:=⟨y.rC,v,none⟩) (h.xL.ne_ h.rC (by decide)) _),(h.xC.far (p:=⟨y.rC,v,none⟩) (h.xC.ne_ h.rC (by decide)) _),(h.xO.far (p:=⟨y.rC,v,none⟩) (h.xO.ne_ h.rC (by decide)) _),(h.xV.far (p:=⟨y.rC,v,none⟩) (h.xV.ne_ h.rC (by decide)) _),(h.xG.far (p:=⟨y.rC,v,none⟩) (h.xG.ne_ h.rC (by decide)) _),(h.at_.below ((K2 _ w).setCell (p:=⟨y.rC,v,none⟩) h.ok.lo.2.2.2.1 _)),(h.bN.far (p:=⟨y.rC,v,none⟩) h.ok.nC _),(h.bS.far (p:=⟨y.rC,v,none⟩) (h.bS.ne_ h.rC (by decide)) _),(h.bZ.far (p:=⟨y.rC,v,none⟩) (h.bZ.ne_ h.rC (by decide)) _),(h.rI.far (p:=⟨y.rC,v,none⟩) h.ok.iC _),(h.rL.far (p:=⟨y.rC,v,none⟩) h.ok.lC _),(by have:=h.rC.set_ v (.int .i64 x);rw[zgi]at this;exact this),(h.rO.far (p:=⟨y.rC,v,none⟩) (h.rO.ne_ h.rC (by decide)) _),(h.stk.setCell (p:=⟨y.rC,v,none⟩) (h.svD h.ok.dC) _),(h.siz.setCell (p:=⟨y.rC,v,none⟩) (h.zvD h.ok.dC) _),h.apart⟩
theorem TAt.setO (h:TAt y B D A c root vs ns w s sv zv) (v:Nat) (b:Bool):TAt y B D A c root vs ns (w.setCell ⟨y.rO,v,none⟩ (.bool b)) {s with on:=s.on.set v b} sv zv:=
 ⟨h.ok,by simp[K9];exact h.hd,(h.xI.far (p:=⟨y.rO,v,none⟩) (h.xI.ne_ h.rO (by decide)) _),(h.xL.far (p:=⟨y.rO,v,none⟩) (h.xL.ne_ h.rO (by decide)) _),(h.xC.far (p:=⟨y.rO,v,none⟩) (h.xC.ne_ h.rO (by decide)) _),(h.xO.far (p:=⟨y.rO,v,none⟩) (h.xO.ne_ h.rO (by decide)) _),(h.xV.far (p:=⟨y.rO,v,none⟩) (h.xV.ne_ h.rO (by decide)) _),(h.xG.far (p:=⟨y.rO,v,none⟩) (h.xG.ne_ h.rO (by decide)) _),(h.at_.below ((K2 _ w).setCell (p:=⟨y.rO,v,none⟩) h.ok.lo.2.2.2.2.1 _)),(h.bN.far (p:=⟨y.rO,v,none⟩) (h.bN.ne_ h.rO (by decide)) _),(h.bS.far (p:=⟨y.rO,v,none⟩) (h.bS.ne_ h.rO (by decide)) _),(h.bZ.far (p:=⟨y.rO,v,none⟩) (h.bZ.ne_ h.rO (by decide)) _),(h.rI.far (p:=⟨y.rO,v,none⟩) (h.rI.ne_ h.rO (by decide)) _),(h.rL.far (p:=⟨y.rO,v,none⟩) (h.rL.ne_ h.rO (by decide)) _),(h.rC.far (p:=⟨y.rO,v,none⟩) (h.rC.ne_ h.rO (by decide)) _),(by have:=h.rO.set_ v (.bool b);rw[zb4]at this;exact this),(h.stk.setCell (p:=⟨y.rO,v,none⟩) (h.svD h.ok.dO) _),(h.siz.setCell (p:=⟨y.rO,v,none⟩) (h.zvD h.ok.dO) _),h.apart⟩
theorem TAt.setS (h:TAt y B D A c root vs ns w s sv zv) {sv2:Value} {l:List Nat} (ho:OwnRow intL w D 3 sv2 l) (hap:∀k,sv2.ownBlock=some k->zv.ownBlock≠some k):TAt y B D A c root vs ns (w.setCell ⟨y.bS,0,none⟩ sv2) {s with stk:=l} sv2 zv:=
 ⟨h.ok,by simp[K9];exact h.hd,(h.xI.far (p:=⟨y.bS,0,none⟩) h.ok.sI.symm _),(h.xL.far (p:=⟨y.bS,0,none⟩) h.ok.sL.symm _),(h.xC.far (p:=⟨y.bS,0,none⟩) h.ok.sC.symm _),(h.xO.far (p:=⟨y.bS,0,none⟩) (h.xO.ne_ h.bS (by decide)) _),(h.xV.far (p:=⟨y.bS,0,none⟩) (h.xV.ne_ h.bS (by decide)) _),(h.xG.far (p:=⟨y.bS,0,none⟩) (h.xG.ne_ h.bS (by decide)) _),(h.at_.below ((K2 _ w).setCell (p:=⟨y.bS,0,none⟩) h.ok.lo.2.2.2.2.2.1 _)),(h.bN.far (p:=⟨y.bS,0,none⟩) (h.bN.ne_ h.bS (by decide)) _),(h.bS.set_ 0 _),(h.bZ.far (p:=⟨y.bS,0,none⟩) h.ok.sZ.symm _),(h.rI.far (p:=⟨y.bS,0,none⟩) (h.rI.ne_ h.bS (by decide)) _),(h.rL.far (p:=⟨y.bS,0,none⟩) (h.rL.ne_ h.bS (by decide)) _),(h.rC.far (p:=⟨y.bS,0,none⟩) (h.rC.ne_ h.bS (by decide)) _),(h.rO.far (p:=⟨y.bS,0,none⟩) (h.rO.ne_ h.bS (by decide)) _),(ho.setCell (p:=⟨y.bS,0,none⟩) (fun e=>absurd (show D<=y.bS from(ho.lt _ e).1) (by have:=h.ok.dS;omega)) _),(h.siz.setCell (p:=⟨y.bS,0,none⟩) (h.zvD h.ok.dS) _),hap⟩
theorem zte (g n c m:Nat) (hm:m<=c) (w:World):(Instr.slice 35 (.slice (some ⟨g,0,none⟩) n c) none (some (.int .i64 (m:Int))) none).run prog w=.ok (.slice (some ⟨g,0,none⟩) m c) w:=by
 obtain⟨b,a,_,_,_⟩:=info_parts infoInt;rw[run_slice_h (P:=prog) 35 3 b underlying35 a (some ⟨g,0,none⟩) n c m hm w];split<;>simp[Addr.add]
theorem OwnRow.shape {α:Type} {L:Lay α} {w:World} {base:Nat} {E:TypeId} {v:Value} {l:List α} (h:OwnRow L w base E v l) (hl:l≠[]):∃g cap,v=.slice (some ⟨g,0,none⟩) l.length cap/\l.length<=cap:=by
 rcases h.2 with⟨_,hn⟩|⟨g,cap,cur,b,hbg,hh,a,hm,hcs,htk⟩
 .grind
 .exact⟨g,cap,b,a⟩
theorem OwnRow.drop1 {α:Type} {L:Lay α} {w:World} {base:Nat} {E:TypeId} {g cap n:Nat} {l:List α} {x:α} (h:OwnRow L w base E (.slice (some ⟨g,0,none⟩) n cap) (l++[x])):OwnRow L w base E (.slice (some ⟨g,0,none⟩) l.length cap) l:=by
 rcases h.2 with⟨f,_⟩|⟨g',cap',a,f,e,m,j,k,i,b⟩
 .cases f
 .injection f with e1 e2 e3
  injection e1 with e1
  injection e1 with e1
  subst e1;subst e3;rw[Q1,V9,Z4]at j b;refine⟨L.all_len l,.inr ⟨g,cap,a,rfl,e,m,by omega,k,i,?_⟩⟩;have d:(a.toList.take ((l.length+(0+1))*L.sz)).take (l.length*L.sz)=(L.all (l++[x])).take (l.length*L.sz):=by rw[b]
  rw[Z8,L.all_append]at d;rw[show min (l.length*L.sz) ((l.length+(0+1))*L.sz)=l.length*L.sz from by rw[X8];omega]at d;rw[d,X6 (by rw[L.all_len];exact K3 _),Q8 (by rw[L.all_len];exact K3 _)]
theorem OwnRow.off {α:Type} {L:Lay α} {w w2:World} {base:Nat} {E:TypeId} {v:Value} {l:List α} {row:Option Nat} (h:OwnRow L w base E v l) (hg:w.grownBy w2 row) (hne:∀k,v.ownBlock=some k->some k≠row):OwnRow L w2 base E v l:=by
 have d:=h.lt;refine⟨h.1,h.2.imp id ?_⟩;rintro⟨g,a,b,i,f,j,r⟩;have e:v.ownBlock=some g:=by rw[i];rfl
 exact⟨g,a,b,i,f,(hg.block g (d g e).2 (hne g e)).trans j,r⟩
theorem TAt.grownS (h:TAt y B D A c root vs ns w s sv zv) {w2:World} {sv2:Value} {l:List Nat} (ho:OwnRow intL w2 D 3 sv2 l) (hg:w.grownBy w2 sv.ownBlock) (hat:sv2.ownBlock=sv.ownBlock\/sv2.ownBlock=some w.heap.size):
 TAt y B D A c root vs ns (w2.setCell ⟨y.bS,0,none⟩ sv2) {s with stk:=l} sv2 zv:=by
 have d:∀{g:Nat} {t:TypeId} {cs:Array Value},Blk w g t cs->g<D->Blk w2 g t cs:=fun f m=>f.grown hg (fun e=>h.svD m e.symm)
 have a:∀{g:Nat} {t:TypeId} {cs:Array Value},Blk w g t cs->3≠t->Blk w2 g t cs:=fun f m=>f.grown hg (fun e=>zb2 h.stk f m e.symm)
 have b:Below D w w2:=h.stk.grown_below hg h.hd;have o:OwnRow intL w2 D 3 zv s.sizes:=h.siz.off hg (fun k e i=>h.apart k i.symm e);have q:TAt y B D A c root vs ns w2 {s with stk:=s.stk} sv2 zv\/True:=.inr trivial;clear q;have j:∀k,sv2.ownBlock=some k->zv.ownBlock≠some k:=fun k e i=>by
  rcases hat with h1|h1
  .exact h.apart k (h1.symm.trans e) i
  .have:=(h.siz.lt k i).2;rw[h1]at e;injection e with e
   omega
 have n:=hg.size;exact⟨h.ok,by simp[K9];exact K7 h.hd n,((a h.xI (by decide)).far (p:=⟨y.bS,0,none⟩) h.ok.sI.symm _),((a h.xL (by decide)).far (p:=⟨y.bS,0,none⟩) h.ok.sL.symm _),((a h.xC (by decide)).far (p:=⟨y.bS,0,none⟩) h.ok.sC.symm _),((a h.xO (by decide)).far (p:=⟨y.bS,0,none⟩) (h.xO.ne_ h.bS (by decide)) _),((a h.xV (by decide)).far (p:=⟨y.bS,0,none⟩) (h.xV.ne_ h.bS (by decide)) _),((a h.xG (by decide)).far (p:=⟨y.bS,0,none⟩) (h.xG.ne_ h.bS (by decide)) _),(h.at_.below (b.mono h.ok.lo.2.2.2.2.2.2.2)).below ((K2 _ w2).setCell (p:=⟨y.bS,0,none⟩) h.ok.lo.2.2.2.2.2.1 _),((d h.bN h.ok.dN).far (p:=⟨y.bS,0,none⟩) (h.bN.ne_ h.bS (by decide)) _),((a h.bS (by decide)).set_ 0 _),((a h.bZ (by decide)).far (p:=⟨y.bS,0,none⟩) h.ok.sZ.symm _),((d h.rI h.ok.dI).far (p:=⟨y.bS,0,none⟩) (h.rI.ne_ h.bS (by decide)) _),((d h.rL h.ok.dL).far (p:=⟨y.bS,0,none⟩) (h.rL.ne_ h.bS (by decide)) _),((d h.rC h.ok.dC).far (p:=⟨y.bS,0,none⟩) (h.rC.ne_ h.bS (by decide)) _),((a h.rO (by decide)).far (p:=⟨y.bS,0,none⟩) (h.rO.ne_ h.bS (by decide)) _),
  (ho.setCell (p:=⟨y.bS,0,none⟩) (fun e=>absurd (show D<=y.bS from(ho.lt _ e).1) (by have:=h.ok.dS;omega)) _),(o.setCell (p:=⟨y.bS,0,none⟩) (h.zvD h.ok.dS) _),j⟩
theorem TAt.grownZ (h:TAt y B D A c root vs ns w s sv zv) {w2:World} {zv2:Value} {l:List Nat} (ho:OwnRow intL w2 D 3 zv2 l) (hg:w.grownBy w2 zv.ownBlock) (hat:zv2.ownBlock=zv.ownBlock\/zv2.ownBlock=some w.heap.size):
 TAt y B D A c root vs ns (w2.setCell ⟨y.bZ,0,none⟩ zv2) {s with sizes:=l} sv zv2:=by
 have f:∀{g:Nat} {t:TypeId} {cs:Array Value},Blk w g t cs->g<D->Blk w2 g t cs:=fun i m=>i.grown hg (fun e=>h.zvD m e.symm)
 have a:∀{g:Nat} {t:TypeId} {cs:Array Value},Blk w g t cs->3≠t->Blk w2 g t cs:=fun i m=>i.grown hg (fun e=>zb2 h.siz i m e.symm)
 have d:Below D w w2:=h.siz.grown_below hg h.hd;have o:OwnRow intL w2 D 3 sv s.stk:=h.stk.off hg (fun k e b=>h.apart k e b.symm);have j:∀k,sv.ownBlock=some k->zv2.ownBlock≠some k:=fun k e b=>by
  rcases hat with h1|h1
  .exact h.apart k e (h1.symm.trans b)
  .have:=(h.stk.lt k e).2;rw[h1]at b;injection b with b
   omega
 have n:=hg.size;exact⟨h.ok,by simp[K9];exact K7 h.hd n,((a h.xI (by decide)).far (p:=⟨y.bZ,0,none⟩) h.ok.zI.symm _),((a h.xL (by decide)).far (p:=⟨y.bZ,0,none⟩) h.ok.zL.symm _),((a h.xC (by decide)).far (p:=⟨y.bZ,0,none⟩) h.ok.zC.symm _),((a h.xO (by decide)).far (p:=⟨y.bZ,0,none⟩) (h.xO.ne_ h.bZ (by decide)) _),((a h.xV (by decide)).far (p:=⟨y.bZ,0,none⟩) (h.xV.ne_ h.bZ (by decide)) _),((a h.xG (by decide)).far (p:=⟨y.bZ,0,none⟩) (h.xG.ne_ h.bZ (by decide)) _),(h.at_.below (d.mono h.ok.lo.2.2.2.2.2.2.2)).below ((K2 _ w2).setCell (p:=⟨y.bZ,0,none⟩) h.ok.lo.2.2.2.2.2.2.1 _),((f h.bN h.ok.dN).far (p:=⟨y.bZ,0,none⟩) (h.bN.ne_ h.bZ (by decide)) _),((a h.bS (by decide)).far (p:=⟨y.bZ,0,none⟩) h.ok.sZ _),((a h.bZ (by decide)).set_ 0 _),((f h.rI h.ok.dI).far (p:=⟨y.bZ,0,none⟩) (h.rI.ne_ h.bZ (by decide)) _),((f h.rL h.ok.dL).far (p:=⟨y.bZ,0,none⟩) (h.rL.ne_ h.bZ (by decide)) _),((f h.rC h.ok.dC).far (p:=⟨y.bZ,0,none⟩) (h.rC.ne_ h.bZ (by decide)) _),((a h.rO (by decide)).far (p:=⟨y.bZ,0,none⟩) (h.rO.ne_ h.bZ (by decide)) _),
  (o.setCell (p:=⟨y.bZ,0,none⟩) (h.svD h.ok.dZ) _),(ho.setCell (p:=⟨y.bZ,0,none⟩) (fun e=>absurd (show D<=y.bZ from(ho.lt _ e).1) (by have:=h.ok.dZ;omega)) _),j⟩
end
open _root_.Go.Lib (hid)
set_option maxRecDepth 100000
set_option maxHeartbeats 16000000
structure TF (y:TL) (sv zv:Value) (w w':World) (sv' zv':Value):Prop where
 os:w'.os=w.os
 tape:w'.tape=w.tape
 output:w'.output=w.output
 size:w.heap.size<=w'.heap.size
 block:∀k,k<w.heap.size->k≠y.bN->k≠y.rI->k≠y.rL->k≠y.rC->k≠y.rO->k≠y.bS->k≠y.bZ->sv.ownBlock≠some k->zv.ownBlock≠some k->w'.heap[k]? =w.heap[k]?
 fs:∀k,sv'.ownBlock=some k->sv.ownBlock=some k\/w.heap.size<=k
 fz:∀k,zv'.ownBlock=some k->zv.ownBlock=some k\/w.heap.size<=k
section
variable {y:TL} {sv zv sv' zv' sv2 zv2:Value} {w w' w2:World}
theorem TF.refl (y:TL) (sv zv:Value) (w:World):TF y sv zv w w sv zv:=⟨rfl,rfl,rfl,K3 _,fun _ _ _ _ _ _ _ _ _ _ _=>rfl,fun _ h=>.inl h,fun _ h=>.inl h⟩
theorem TF.trans (h:TF y sv zv w w' sv' zv') (h2:TF y sv' zv' w' w2 sv2 zv2):TF y sv zv w w2 sv2 zv2:=by
 refine⟨h2.os.trans h.os,h2.tape.trans h.tape,h2.output.trans h.output,K7 h.size h2.size,?_,?_,?_⟩
 .intro k f j l b n i a g d m;refine(h2.block k (Nat.lt_of_lt_of_le f h.size) j l b n i a g (fun e=>?_) (fun e=>?_)).trans (h.block k f j l b n i a g d m)
  .rcases h.fs k e with h3|h3
   .exact d h3
   .omega
  .rcases h.fz k e with h3|h3
   .exact m h3
   .omega
 .intro k e;rcases h2.fs k e with h3|h3
  .exact h.fs k h3
  .exact .inr (K7 h.size h3)
 .intro k e;rcases h2.fz k e with h3|h3
  .exact h.fz k h3
  .exact .inr (K7 h.size h3)
theorem TF.of_below (hb:Below w.heap.size w w'):TF y sv zv w w' sv zv:=⟨hb.os,hb.tape,hb.output,hb.size,fun k a _ _ _ _ _ _ _ _ _=>hb.block k a,fun _ h=>.inl h,fun _ h=>.inl h⟩
theorem TF.alloc (h:TF y sv zv w w' sv' zv') (o:Obj):TF y sv zv w (w'.alloc o) sv' zv':=h.trans (TF.of_below ((K2 _ _).alloc (K3 _) o))
theorem TF.drewN (h:TF y sv zv w w' sv' zv') (n:Nat):TF y sv zv w (w'.drewN n) sv' zv':=h.trans (TF.of_below (below_drewN (K2 _ _) n))
theorem TF.drew (h:TF y sv zv w w' sv' zv'):TF y sv zv w w'.drew sv' zv':=h.drewN 1
theorem TF.set (h:TF y sv zv w w' sv' zv') (g i:Nat) (hg:g=y.bN\/g=y.rI\/g=y.rL\/g=y.rC\/g=y.rO\/g=y.bS\/g=y.bZ) (u:Value):TF y sv zv w (w'.setCell ⟨g,i,none⟩ u) sv' zv':=by
 refine h.trans ⟨rfl,rfl,rfl,by simp[K9],?_,fun _ h=>.inl h,fun _ h=>.inl h⟩;intro k _ a1 a2 a3 a4 a5 a6 a7 _ _;refine Below.heap_setCell _ _ _ _ ?_;show k≠g;rcases hg with rfl|rfl|rfl|rfl|rfl|rfl|rfl<;>assumption
theorem TF.blk (h:TF y sv zv w w' sv' zv') {k:Nat} {t:TypeId} {cs:Array Value} (hb:Blk w k t cs) (a1:k≠y.bN) (a2:k≠y.rI) (a3:k≠y.rL) (a4:k≠y.rC) (a5:k≠y.rO) (a6:k≠y.bS) (a7:k≠y.bZ) (a8:sv.ownBlock≠some k) (a9:zv.ownBlock≠some k):Blk w' k t cs:=
 (h.block k hb.lt a1 a2 a3 a4 a5 a6 a7 a8 a9).trans hb
end
theorem TF.grownS {B D:Nat} {A:Option Addr} {c:Nat} {root:Int} {vs:List NV} {ns:List U2} {s:Gr.TS} {y:TL} {sv zv sv2:Value} {w w2:World} (_h:TAt y B D A c root vs ns w s sv zv) (hg:w.grownBy w2 sv.ownBlock) (hat:sv2.ownBlock=sv.ownBlock\/sv2.ownBlock=some w.heap.size):
 TF y sv zv w (w2.setCell ⟨y.bS,0,none⟩ sv2) sv2 zv:=by
 have a:Below 0 w w2:=(K2 0 w).grown hg (X7 _) (fun _ _=>X7 _);have h1:TF y sv zv w w2 sv2 zv:=⟨a.os,a.tape,a.output,a.size,fun k d _ _ _ _ _ _ _ b _=>hg.block k d (fun e=>b e.symm),fun k e=>by
  rcases hat with h1|h1
  .exact .inl (h1.symm.trans e)
  .right;rw[h1]at e;injection e with e;omega,fun _ e=>.inl e⟩
 exact h1.set y.bS 0 (by simp) _
theorem TF.grownZ {B D:Nat} {A:Option Addr} {c:Nat} {root:Int} {vs:List NV} {ns:List U2} {s:Gr.TS} {y:TL} {sv zv zv2:Value} {w w2:World} (_h:TAt y B D A c root vs ns w s sv zv) (hg:w.grownBy w2 zv.ownBlock) (hat:zv2.ownBlock=zv.ownBlock\/zv2.ownBlock=some w.heap.size):
 TF y sv zv w (w2.setCell ⟨y.bZ,0,none⟩ zv2) sv zv2:=by
 have a:Below 0 w w2:=(K2 0 w).grown hg (X7 _) (fun _ _=>X7 _);have h1:TF y sv zv w w2 sv zv2:=⟨a.os,a.tape,a.output,a.size,fun k d _ _ _ _ _ _ _ _ b=>hg.block k d (fun e=>b e.symm),fun _ e=>.inl e,fun k e=>by
  rcases hat with h1|h1
  .exact .inl (h1.symm.trans e)
  .right;rw[h1]at e;injection e with e;omega⟩
 exact h1.set y.bZ 0 (by simp) _
structure ABox (y:TL) (D:Nat) (w:World) (sv zv:Value) (bA v:Nat):Prop where
 b:Blk w bA 3 #[.int .i64 (v:Int)]
 hi:D<=bA
 s:sv.ownBlock≠some bA
 z:zv.ownBlock≠some bA
theorem ABox.kept {y:TL} {B D:Nat} {w w':World} {sv zv sv' zv':Value} {bA v:Nat} (h:ABox y D w sv zv bA v) (ok:TLok y B D) (hf:TF y sv zv w w' sv' zv'):ABox y D w' sv' zv' bA v:=by
 have hhi:=h.hi;have hlt:=h.b.lt;have:=ok.dN;have:=ok.dI;have:=ok.dL;have:=ok.dC;have:=ok.dO;have:=ok.dS;have:=ok.dZ;refine⟨hf.blk h.b (by omega) (by omega) (by omega) (by omega) (by omega) (by omega) (by omega) h.s h.z,h.hi,fun e=>?_,fun e=>?_⟩
 .rcases hf.fs _ e with h1|h1
  .exact h.s h1
  .omega
 .rcases hf.fz _ e with h1|h1
  .exact h.z h1
  .omega
def TPost (y:TL) (B D:Nat) (A:Option Addr) (c:Nat) (root:Int) (vs:List NV) (ns:List U2) (w:World) (sv zv:Value) (s':Gr.TS) (e:Ending) (w':World):Prop:=
 e=.returned (.tuple #[])/\∃sv' zv',TAt y B D A c root vs ns w' s' sv' zv'/\TF y sv zv w w' sv' zv'
section
variable {y:TL} {B D:Nat} {A:Option Addr} {c:Nat} {root:Int} {vs:List NV} {ns:List U2}
theorem zwh (w:World) (s:Gr.TS) (sv zv:Value) (bA v x:Nat) (h:TAt y B D A c root vs ns w s sv zv) (hA:ABox y D w sv zv bA v) (_hl:ns.length<=1073741823) (hv:v<ns.length) (hx:x<ns.length) (li:s.idx.length=ns.length) (ll:s.low.length=ns.length) (lo:s.on.length=ns.length)
 (hi:s.ix x≠0) (hon:s.onn x=true) (_hb1:s.lw v<=1073741824) (_hb2:s.ix x<=1073741824):
 Calls prog 64 #[.int .i64 x,.pointer (some ⟨y.bI,0,none⟩),.pointer (some ⟨y.bV,0,none⟩),.pointer (some ⟨y.bL,0,none⟩),.pointer (some ⟨bA,0,none⟩),.pointer (some ⟨y.bO,0,none⟩)] w (TPost y B D A c root vs ns w sv zv (s.lower v (s.ix x))):=by
 have i0:w.cell? ⟨y.bI,0,none⟩=some (.slice (some ⟨y.rI,0,none⟩) ns.length ns.length):=h.xI.cell 0;have l0:w.cell? ⟨y.bL,0,none⟩=some (.slice (some ⟨y.rL,0,none⟩) ns.length ns.length):=h.xL.cell 0;have o0:w.cell? ⟨y.bO,0,none⟩=some (.slice (some ⟨y.rO,0,none⟩) ns.length ns.length):=h.xO.cell 0;have a0:w.cell? ⟨bA,0,none⟩=some (.int .i64 (v:Int)):=hA.b.cell 0;obtain⟨p,a⟩:=ex (s.ix x)
 obtain⟨q,d⟩:=ex (s.lw v)
 have ix:w.cell? ⟨y.rI,x,none⟩=some (.int .i64 (p:Int)):=by rw[h.rI.cell,zaa (by omega),<-a];rfl
 have lv:w.cell? ⟨y.rL,v,none⟩=some (.int .i64 (q:Int)):=by rw[h.rL.cell,zaa (by omega),<-d];rfl
 have ox:w.cell? ⟨y.rO,x,none⟩=some (.bool true):=by rw[h.rO.cell,zae (by omega)];show some (Value.bool (s.onn x))=_;rw[hon]
 have lf:∀i,w.frozen? ⟨y.rL,i,none⟩=false:=h.rL.frozen;have hvI:(v:Int)<(ns.length:Int):=by omega
 have hxI:(x:Int)<(ns.length:Int):=by omega
 rw[a]at hi _hb2;rw[d]at _hb1;have e:¬((p:Int)=0):=by omega
 have hpb:((p:Int)==0)=false:=by simpa using e
 have f:Hid (s.lower v p={s with low:=s.low.set v (min q p)}):=hid (by unfold Gr.TS.lower;rw[d]);have H:=hid h;rw[a];clear h hA hon a d;go_enter func64,ntmps64;go_upto_region 4 with fail;go_region
 all_goals go_wp2_with fail
 all_goals
  go_end0;refine⟨rfl,sv,zv,?_,((TF.refl _ _ _ _).set y.rL v (by simp) _).drew⟩;rw[f.out]
  first
   | (rw[show min q p=q from by omega];exact(H.out.setL v q).drew)
   | (rw[show min (q:Int) (p:Int)=((min q p:Nat):Int)from by omega];exact(H.out.setL v (min q p)).drew)
   | (rw[show min q p=p from by omega];exact(H.out.setL v p).drew)
theorem ztf (w:World) (s:Gr.TS) (sv zv:Value) (bA x:Nat) (h:TAt y B D A c root vs ns w s sv zv) (_hl:ns.length<=1073741823) (hx:x<ns.length) (li:s.idx.length=ns.length) (lo:s.on.length=ns.length)
 (hi:s.ix x≠0) (hon:s.onn x=false) (_hb2:s.ix x<=1073741824):
 Calls prog 64 #[.int .i64 x,.pointer (some ⟨y.bI,0,none⟩),.pointer (some ⟨y.bV,0,none⟩),.pointer (some ⟨y.bL,0,none⟩),.pointer (some ⟨bA,0,none⟩),.pointer (some ⟨y.bO,0,none⟩)] w (TPost y B D A c root vs ns w sv zv s):=by
 have i0:w.cell? ⟨y.bI,0,none⟩=some (.slice (some ⟨y.rI,0,none⟩) ns.length ns.length):=h.xI.cell 0;have o0:w.cell? ⟨y.bO,0,none⟩=some (.slice (some ⟨y.rO,0,none⟩) ns.length ns.length):=h.xO.cell 0;obtain⟨p,a⟩:=ex (s.ix x)
 have ix:w.cell? ⟨y.rI,x,none⟩=some (.int .i64 (p:Int)):=by rw[h.rI.cell,zaa (by omega),<-a];rfl
 have ox:w.cell? ⟨y.rO,x,none⟩=some (.bool false):=by rw[h.rO.cell,zae (by omega)];show some (Value.bool (s.onn x))=_;rw[hon]
 have hxI:(x:Int)<(ns.length:Int):=by omega
 rw[a]at hi _hb2;have b:¬((p:Int)=0):=by omega
 have hpb:((p:Int)==0)=false:=by simpa using b
 have H:=hid h;clear h hon a;go_enter func64,ntmps64;go_wp2_with fail;go_end0;exact⟨rfl,sv,zv,H.out,TF.refl _ _ _ _⟩
theorem ztg (w:World) (s s2:Gr.TS) (sv zv:Value) (bA v x:Nat) (h:TAt y B D A c root vs ns w s sv zv) (hA:ABox y D w sv zv bA v) (_hl:ns.length<=1073741823) (hv:v<ns.length) (hx:x<ns.length) (li:s.idx.length=ns.length) (ll:s2.low.length=ns.length)
 (hi:s.ix x=0) (_hb1:s2.lw v<=1073741824) (_hb2:s2.lw x<=1073741824) (hcall:Calls prog 63 (y.args (.int .i64 x)) w (TPost y B D A c root vs ns w sv zv s2)):
 Calls prog 64 #[.int .i64 x,.pointer (some ⟨y.bI,0,none⟩),.pointer (some ⟨y.bV,0,none⟩),.pointer (some ⟨y.bL,0,none⟩),.pointer (some ⟨bA,0,none⟩),.pointer (some ⟨y.bO,0,none⟩)] w (TPost y B D A c root vs ns w sv zv (s2.lower v (s2.lw x))):=by
 have u:w.cell? ⟨y.bI,0,none⟩=some (.slice (some ⟨y.rI,0,none⟩) ns.length ns.length):=h.xI.cell 0;have n:w.cell? ⟨y.bV,0,none⟩=some y.fn:=h.xV.cell 0;have ix:w.cell? ⟨y.rI,x,none⟩=some (.int .i64 0):=by rw[h.rI.cell,zaa (by omega)];show some (Value.int .i64 ((s.ix x:Nat):Int))=_;rw[hi];rfl
 have hvI:(v:Int)<(ns.length:Int):=by omega
 have hxI:(x:Int)<(ns.length:Int):=by omega
 have m:=hid hcall;have o:=hid hA;obtain⟨p,k⟩:=ex (s2.lw x)
 obtain⟨q,g⟩:=ex (s2.lw v)
 have t:=hid k;have z:=hid g;have r:Hid (s2.lower v p={s2 with low:=s2.low.set v (min q p)}):=hid (by unfold Gr.TS.lower;rw[g]);have j:=hid h.ok;rw[k]at _hb2 ⊢;rw[g]at _hb1;unfold TL.fn at n;unfold TL.args at m;clear h hA hcall k g;go_enter func64,ntmps64;go_wp2_with fail;refine m.out.mono ?_;rintro e w2 ⟨rfl,sv2,zv2,d,a⟩;have f:=o.out.kept j.out a;have l0:w2.cell? ⟨y.bL,0,none⟩=some (.slice (some ⟨y.rL,0,none⟩) ns.length ns.length):=d.xL.cell 0;have a0:w2.cell? ⟨bA,0,none⟩=some (.int .i64 (v:Int)):=f.b.cell 0;have lx:w2.cell? ⟨y.rL,x,none⟩=some (.int .i64 (p:Int)):=by rw[d.rL.cell,zaa (by omega),<-t.out];rfl
 have lv:w2.cell? ⟨y.rL,v,none⟩=some (.int .i64 (q:Int)):=by rw[d.rL.cell,zaa (by omega),<-z.out];rfl
 have lf:∀i,w2.frozen? ⟨y.rL,i,none⟩=false:=d.rL.frozen;have H:=hid d;have l:=hid a;clear u n ix d a f;go_upto_region 2 with fail;go_region
 all_goals go_wp2_with fail
 all_goals
  go_end0;refine⟨rfl,sv2,zv2,?_,(l.out.set y.rL v (by simp) _).drew⟩;rw[r.out]
  first
   | (rw[show min q p=q from by omega];exact(H.out.setL v q).drew)
   | (rw[show min (q:Int) (p:Int)=((min q p:Nat):Int)from by omega];exact(H.out.setL v (min q p)).drew)
   | (rw[show min q p=p from by omega];exact(H.out.setL v p).drew)
end
open Gr
def tlv:Nat->Code->Code
 | 0,c=>c
 |n+1,.seq _ b=>tlv n b
 |_+1,c=>c
section
variable {y:TL} {B D:Nat} {A:Option Addr} {c:Nat} {root:Int} {vs:List NV} {ns:List U2}
theorem zth (w:World) (s:Gr.TS) (vis:Gr.TS->Nat->Gr.TS) (sv zv:Value) (bA v x:Nat) (h:TAt y B D A c root vs ns w s sv zv) (hA:ABox y D w sv zv bA v) (hl:ns.length<=1073741823) (hv:v<ns.length) (hx:x<ns.length)
 (li:s.idx.length=ns.length) (ll:s.low.length=ns.length) (lo:s.on.length=ns.length) (hb1:s.lw v<=1073741824) (hb2:s.ix x<=1073741824)
 (hnew:s.ix x=0->(vis s x).low.length=ns.length/\(vis s x).lw v<=1073741824/\(vis s x).lw x<=1073741824/\Calls prog 63 (y.args (.int .i64 x)) w (TPost y B D A c root vs ns w sv zv (vis s x))):
 Calls prog 64 #[.int .i64 x,.pointer (some ⟨y.bI,0,none⟩),.pointer (some ⟨y.bV,0,none⟩),.pointer (some ⟨y.bL,0,none⟩),.pointer (some ⟨bA,0,none⟩),.pointer (some ⟨y.bO,0,none⟩)] w (TPost y B D A c root vs ns w sv zv (tstep vis v s x)):=by
 unfold tstep;by_cases hi:s.ix x=0
 .rw[if_pos hi];obtain⟨b,e,a,d⟩:=hnew hi;exact ztg w s (vis s x) sv zv bA v x h hA hl hv hx li b hi e a d
 .rw[if_neg hi];by_cases hon:s.onn x=true
  .rw[if_pos hon];exact zwh w s sv zv bA v x h hA hl hv hx li ll lo hi hon hb1 hb2
  .rw[if_neg hon];exact ztf w s sv zv bA x h hl hx li lo hi (by simpa using hon) hb2
theorem zoz (hr:Refs ns) (hl:ns.length<=1073741823) {f:Nat} {s0:Gr.TS} {v:Nat} {G:Nat->Prop} (hI:Z1 (K0 ns) ns.length G s0) (hv:v<ns.length) (hv0:s0.ix v=0) (hg:∀g,G g->Y8 (K0 ns) g v) (hu:unv ns.length s0<=f+1)
 (ih:∀(s:Gr.TS) (v:Nat) (G:Nat->Prop) (w:World) (sv zv:Value),TAt y B D A c root vs ns w s sv zv->Z1 (K0 ns) ns.length G s->v<ns.length->s.ix v=0->(∀g,G g->Y8 (K0 ns) g v)->unv ns.length s<=f->
   Calls prog 63 (y.args (.int .i64 v)) w (TPost y B D A c root vs ns w sv zv (tvisit (K0 ns) f s v)))
 {k:Nat} (hk:k<(K0 ns v).length) (w:World) (sv zv:Value) (bA:Nat) (h:TAt y B D A c root vs ns w (((K0 ns v).take k).foldl (tstep (tvisit (K0 ns) f) v) (s0.push v)) sv zv) (hA:ABox y D w sv zv bA v):
 Calls prog 64 #[.int .i64 ((K0 ns v)[k]:Nat),.pointer (some ⟨y.bI,0,none⟩),.pointer (some ⟨y.bV,0,none⟩),.pointer (some ⟨y.bL,0,none⟩),.pointer (some ⟨bA,0,none⟩),.pointer (some ⟨y.bO,0,none⟩)] w
  (TPost y B D A c root vs ns w sv zv (((K0 ns v).take (k+1)).foldl (tstep (tvisit (K0 ns) f) v) (s0.push v))):=by
 obtain⟨T,a,i⟩:=zei hr.succ f s0 v hI hv hv0 hg hu k (by omega);have b:(K0 ns v)[k]∈K0 ns v:=Q4 hk;have m:=hr.succ v _ b;rw[K4 hk,X2];obtain⟨x,n⟩:=ex ((K0 ns v)[k])
 rw[n]at b m ⊢;obtain⟨s,r⟩:=ex (((K0 ns v).take k).foldl (tstep (tvisit (K0 ns) f) v) (s0.push v))
 rw[r]at h a i ⊢;have d:∀u,s.ix u<=1073741823:=fun u=>by have:=a.inv.nx u;have:=a.inv.bn;omega
 refine zth w s (tvisit (K0 ns) f) sv zv bA v x h hA hl hv m a.inv.li a.inv.ll a.inv.lo (by have:=a.lwv;have:=d v;omega) (by have:=d x;omega) (fun p=>?_);have l:∀g,(G g\/g=v)->Y8 (K0 ns) g x:=by
  rintro g (h1|rfl)
  .exact(hg g h1).trans (.one b)
  .exact .one b
 obtain⟨q,j,e⟩:=zg0 hr.succ f s x (fun u=>G u\/u=v) a.inv m p l i;have o:s.ix v≠0:=by rw[a.ixv];omega
 refine⟨j.ll,?_,?_,ih s x _ w sv zv h a.inv m p l i⟩
 .rw[e.klw v o];have:=a.lwv;have:=d v;omega
 .by_cases hm:x∈q
  .obtain⟨z,_,h1,_⟩:=e.att hm;have:=d z;omega
  .rw[(e.out hm).2];have:=j.nx x;have:=j.bn;omega
theorem TF.reval {sv zv sv' zv' sv2:Value} {w w':World} (h:TF y sv zv w w' sv' zv') (e:sv2.ownBlock=sv'.ownBlock):TF y sv zv w w' sv2 zv':=⟨h.os,h.tape,h.output,h.size,h.block,fun k a=>h.fs k (e▸a),h.fz⟩
theorem TAt.tfBelow {w w':World} {s:Gr.TS} {sv zv sv' zv':Value} (h:TAt y B D A c root vs ns w s sv zv) (hf:TF y sv zv w w' sv' zv'):Below B w w':=by
 refine⟨hf.os,hf.tape,hf.output,hf.size,fun k hk=>?_⟩;obtain⟨l1,l2,l3,l4,l5,l6,l7,l8⟩:=h.ok.lo;have:=h.hd;exact hf.block k (by omega) (by omega) (by omega) (by omega) (by omega) (by omega) (by omega) (by omega) (h.svD (by omega)) (h.zvD (by omega))
theorem zmk (hr:Refs ns) (hl:ns.length<=1073741823) (hks:∀n∈ns,n.keys.length<=1073741823/\n.items.length<=1073741823) {f:Nat} {s:Gr.TS} {v:Nat} {G:Nat->Prop} (hI:Z1 (K0 ns) ns.length G s) (hv:v<ns.length) (hv0:s.ix v=0) (hg:∀g,G g->Y8 (K0 ns) g v) (hu:unv ns.length s<=f+1)
 (ih:∀(s:Gr.TS) (v:Nat) (G:Nat->Prop) (w:World) (sv zv:Value),TAt y B D A c root vs ns w s sv zv->Z1 (K0 ns) ns.length G s->v<ns.length->s.ix v=0->(∀g,G g->Y8 (K0 ns) g v)->unv ns.length s<=f->
   Calls prog 63 (y.args (.int .i64 v)) w (TPost y B D A c root vs ns w sv zv (tvisit (K0 ns) f s v)))
 (w wc:World) (sv zv sv1:Value) (bA:Nat) (hT:TAt y B D A c root vs ns wc {s with next:=s.next+1,idx:=s.idx.set v (s.next+1),low:=s.low.set v (s.next+1),stk:=s.stk++[v]} sv1 zv) (hF:TF y sv zv w wc sv1 zv) (hA:ABox y D wc sv1 zv bA v)
 {u11 u12 u13 u14 u15 u16 u17 u18 u19 u20 u21 u22 u23 u24 u25 u26 u27 u28 u29 u30 u31 u32 u33 u34 u35 u36 u37 u38 u39 u40 u41 u42 u43 u44 u45 u46 u47 u48 u49 u50 u51 u52 u53 u54 u55 u56 u57 u58 u59 u60 u61 u62 u63 u64 u65 u66 u67 u68 u69 u70 u71 u72 u73 u74 u75 u76 u77 u78 u79 u80 u81 u82 u83 u84 u85 u86 u87 u88 u89 u90 u91 u92 u93 u94 u95 u96 u97 u98 u99 u100 u101 u102:Value}:
 Code.wp prog (tlv 4 (f63.body.getD .skip)) (bodyPost prog f63 (TPost y B D A c root vs ns w sv zv (tvisit (K0 ns) (f+1) s v))) {tmps:=Q6 (.int .i64 v::.pointer (some ⟨y.bN,0,none⟩)::.pointer (some ⟨y.bI,0,none⟩)::.pointer (some ⟨y.bL,0,none⟩)::.pointer (some ⟨y.bS,0,none⟩)::.pointer (some ⟨y.bO,0,none⟩)::.pointer (some ⟨y.bV,0,none⟩)::.pointer (some ⟨y.bG,0,none⟩)::.pointer (some ⟨y.bZ,0,none⟩)::.pointer (some ⟨y.bC,0,none⟩)::.pointer (some ⟨bA,0,none⟩)::u11::u12::u13::u14::u15::u16::u17::u18::u19::u20::u21::u22::u23::u24::u25::u26::u27::u28::u29::u30::u31::u32::u33::u34::u35::u36::u37::u38::u39::u40::u41::u42::u43::u44::u45::u46::u47::u48::u49::u50::u51::u52::u53::u54::u55::u56::u57::u58::u59::u60::u61::u62::u63::u64::u65::u66::u67::u68::u69::u70::u71::u72::u73::u74::u75::u76::u77::u78::u79::u80::u81::u82::u83::u84::u85::u86::u87::u88::u89::u90::u91::u92::u93::u94::u95::u96::u97::u98::u99::u100::u101::u102::[]),defers:=[]} wc:=by
 generalize hc0:tlv 4 (f63.body.getD .skip)=c0;simp only[tlv,f63,Q3]at hc0;subst hc0;have hvI:(v:Int)<(ns.length:Int):=by omega
 have u:=hid (fun(k:Nat) (hk:k<(K0 ns v).length)=>zoz (y:=y) (B:=B) (D:=D) (A:=A) (c:=c) (root:=root) (vs:=vs) hr hl hI hv hv0 hg hu ih hk);have Y:=hid (zei hr.succ f s v hI hv hv0 hg hu);have HI:=hid hI;have N:=hid hT.ok;have r:Hid (tvisit (K0 ns) (f+1) s v=tfin ((K0 ns v).foldl (tstep (tvisit (K0 ns) f) v) (s.push v)) v):=hid rfl;obtain⟨st,aW⟩:∃st:Gr.TS->Nat->Gr.TS,tstep (tvisit (K0 ns) f) v=st:=⟨_,rfl⟩
 rw[aW]at u Y r;have o0:wc.cell? ⟨y.bO,0,none⟩=some (.slice (some ⟨y.rO,0,none⟩) ns.length ns.length):=hT.xO.cell 0;have a0:wc.cell? ⟨bA,0,none⟩=some (.int .i64 (v:Int)):=hA.b.cell 0;have of:∀i,wc.frozen? ⟨y.rO,i,none⟩=false:=hT.rO.frozen;have ov:wc.cell? ⟨y.rO,v,none⟩=some (.bool (s.onn v)):=by rw[hT.rO.cell,zae (by show v<s.on.length;rw[HI.out.lo];exact hv)];rfl
 have HT:=hid hT;have HF:=hid hF;have HA:=hid hA;clear hT hF hA hI hg hu ih aW;go_upto_region 6 with fail;obtain⟨M,ah⟩:=ex (wc.setCell ⟨y.rO,v,none⟩ (.bool true))
 have f4:TF y sv1 zv wc M sv1 zv:=by rw[<-ah];exact(TF.refl _ _ _ _).set y.rO v (by simp) _
 have h4:TAt y B D A c root vs ns M (s.push v) sv1 zv:=by rw[<-ah];exact HT.out.setO v true
 have av:=HA.out.kept N.out f4;have ba:=hid (HF.out.trans f4);(try rw[ah]);clear ah o0 a0 of ov HT HF HA f4;have aU:ns[v]∈ns:=Q4 hv;obtain⟨aw,aZ⟩:=hks _ aU;have aq:K0 ns v=ns[v].keys++ns[v].items:=by unfold K0;rw[Q2 hv]
 obtain⟨C,k,i,rfl,hN⟩:=h4.at_.node hv;obtain⟨ka,kn,kc⟩:=k;obtain⟨ia,inn,ic⟩:=i;obtain⟨n,hn⟩:=ex (ns[v])
 rw[hn]at hN aw aZ aq;obtain rfl:kn=n.keys.length:=hN.kn;obtain rfl:inn=n.items.length:=hN.inn;have X:=hid aq;have x3:=hN.c3;have g0:M.cell? ⟨y.bG,0,none⟩=some (.slice (some C) ns.length c):=h4.xG.cell 0;have a0:M.cell? ⟨bA,0,none⟩=some (.int .i64 (v:Int)):=av.b.cell 0;have aD:=hid hN.keys;have ap:Hid (RowAt intL M B ia n.items/\M.cell? {block:=(C.add (v*5)).block,off:=(C.add (v*5)).off+4}=some (.slice ia n.items.length ic)/\(C.add (v*5)).block<B):=hid ⟨hN.items,hN.c4,hN.lt⟩;have H4:=hid h4;have a5:=hid av;clear hN h4 av hn aU aq;go_upto_region 7 with fail;clear x3 g0 a0;go_loopw [43] (fun s43 wr=>∃(k:Nat) (sk zk:Value),k<=n.keys.length/\s43=.int .i64 k/\Hid (TAt y B D (some C) c root vs ns wr (((K0 ns v).take k).foldl st (s.push v)) sk zk/\TF y sv1 zv M wr sk zk/\ABox y D wr sk zk bA v)) (fun s43 _=>n.keys.length-(intOf s43).toNat)
 case atStart=>exact⟨0,sv1,zv,by omega,rfl,hid ⟨by simpa using H4.out,TF.refl _ _ _ _,a5.out⟩⟩
 case round=>
  obtain⟨k,sk,zk,hk,rfl,o⟩:=hrel;by_cases hlk:k<n.keys.length
  .have I:(k:Int)<(n.keys.length:Int):=by omega
   have E:k<(K0 ns v).length:=by rw[X.out,Q1];omega
   have F:(K0 ns v)[k]=n.keys[k]:=by simp only[X.out];exact List.getElem_append_left hlk
   obtain⟨x,hx⟩:=ex (n.keys[k])
   have hC:=u.out _ E wr sk zk bA o.out.1 o.out.2.2;rw[F,hx]at hC;obtain⟨aI,rfl,_,y0⟩:=zaf (aD.out.below (H4.out.tfBelow o.out.2.1)) hlk;rw[hx]at y0;have HC:=hid hC;clear hC hx F E;go_wp2_with fail;refine HC.out.mono ?_;rintro e J ⟨rfl,z,t,Z,f5⟩;have S:Hid (TAt y B D (some C) c root vs ns J (((K0 ns v).take (k+1)).foldl st (s.push v)) z t/\TF y sv1 zv M J z t/\ABox y D J z t bA v):=hid ⟨Z,o.out.2.1.trans f5,o.out.2.2.kept N.out f5⟩;clear Z f5;go_wp2;go_roundw
   case rel=>exact⟨k+1,z,t,by omega,by go_num,S⟩
   case measure=>simp[intOf];omega
  .have I:¬((k:Int)<(n.keys.length:Int)):=by omega
   have P:Hid (TAt y B D (some C) c root vs ns wr (((K0 ns v).take (n.keys.length+0)).foldl st (s.push v)) sk zk/\TF y sv1 zv M wr sk zk/\ABox y D wr sk zk bA v):=hid (by
    have:=o.out;rw[show k=n.keys.length+0 from by omega]at this;exact this)
   have g0:wr.cell? ⟨y.bG,0,none⟩=some (.slice (some C) ns.length c):=P.out.1.xG.cell 0;have a0:wr.cell? ⟨bA,0,none⟩=some (.int .i64 (v:Int)):=P.out.2.2.b.cell 0;have x4:wr.cell? {block:=(C.add (v*5)).block,off:=(C.add (v*5)).off+4}=some (.slice ia n.items.length ic):=by
    rw[(H4.out.tfBelow P.out.2.1).cell (by exact ap.out.2.2)];exact ap.out.2.1
   clear o hk hlk aD;go_upto_region 12 with fail;clear g0 a0 x4 I;go_loopw [58] (fun s58 wr=>∃(k:Nat) (sk zk:Value),k<=n.items.length/\s58=.int .i64 k/\Hid (TAt y B D (some C) c root vs ns wr (((K0 ns v).take (n.keys.length+k)).foldl st (s.push v)) sk zk/\TF y sv1 zv M wr sk zk/\ABox y D wr sk zk bA v)) (fun s58 _=>n.items.length-(intOf s58).toNat)
   case atStart=>exact⟨0,sk,zk,by omega,rfl,P⟩
   case round=>
    clear P;obtain⟨k,sk,zk,hk,rfl,o⟩:=hrel;by_cases hlk:k<n.items.length
    .have I:(k:Int)<(n.items.length:Int):=by omega
     have E:n.keys.length+k<(K0 ns v).length:=by rw[X.out,Q1];omega
     have F:(K0 ns v)[n.keys.length+k]=n.items[k]:=by simp only[X.out];rw[List.getElem_append_right (by omega)];congr 1;omega
     obtain⟨x,hx⟩:=ex (n.items[k])
     have hC:=u.out _ E wr sk zk bA o.out.1 o.out.2.2;rw[F,hx]at hC;obtain⟨aI,rfl,_,y0⟩:=zaf (ap.out.1.below (H4.out.tfBelow o.out.2.1)) hlk;rw[hx]at y0;have HC:=hid hC;clear hC hx F E;go_wp2_with fail;refine HC.out.mono ?_;rintro e J ⟨rfl,z,t,Z,f5⟩;have S:Hid (TAt y B D (some C) c root vs ns J (((K0 ns v).take (n.keys.length+(k+1))).foldl st (s.push v)) z t/\TF y sv1 zv M J z t/\ABox y D J z t bA v):=hid ⟨Z,o.out.2.1.trans f5,o.out.2.2.kept N.out f5⟩;clear Z f5;go_wp2;go_roundw
     case rel=>exact⟨k+1,z,t,by omega,by go_num,S⟩
     case measure=>simp[intOf];omega
    .have I:¬((k:Int)<(n.items.length:Int)):=by omega
     have aA:(K0 ns v).length=n.keys.length+n.items.length:=by rw[X.out,Q1]
     obtain⟨q,hq⟩:=ex ((K0 ns v).foldl st (s.push v))
     have HQ:Hid (TAt y B D (some C) c root vs ns wr q sk zk/\TF y sv1 zv M wr sk zk/\ABox y D wr sk zk bA v):=hid (by
      have:=o.out;rw[show n.keys.length+k=(K0 ns v).length from by omega,X4,hq]at this;exact this)
     have V:Hid (∃T,Gr.Loop (K0 ns) ns.length G s q v T (K0 ns v)):=hid (by
      obtain⟨T,hT,_⟩:=Y.out (K0 ns v).length (K3 _);rw[X4,hq]at hT;exact⟨T,hT⟩)
     rw[hq]at r;clear hq aA o hk hlk u Y;have aF:Hid (TF y sv zv w wr sk zk):=hid (ba.out.trans HQ.out.2.1);have HB:Hid (q.low.length=ns.length/\q.idx.length=ns.length/\q.ix v<=1073741823/\q.lw v<=1073741823/\q.on.length=ns.length/\q.inn.length=ns.length/\q.stk.length<=1073741823/\q.sizes.length<=1073741823):=hid (by
      obtain⟨T,hT⟩:=V.out;have h1:=hT.inv.nx v;have h2:=hT.inv.bn;have h3:=hT.lwv;have h4:=hT.inv.bz;exact⟨hT.inv.ll,hT.inv.li,by omega,by omega,hT.inv.lo,hT.inv.lc,by omega,by omega⟩)
     obtain⟨qi,U⟩:=ex (q.ix v)
     obtain⟨ql,O⟩:=ex (q.lw v)
     have i0:wr.cell? ⟨y.bI,0,none⟩=some (.slice (some ⟨y.rI,0,none⟩) ns.length ns.length):=HQ.out.1.xI.cell 0;have l0:wr.cell? ⟨y.bL,0,none⟩=some (.slice (some ⟨y.rL,0,none⟩) ns.length ns.length):=HQ.out.1.xL.cell 0;have a0:wr.cell? ⟨bA,0,none⟩=some (.int .i64 (v:Int)):=HQ.out.2.2.b.cell 0;have iv:wr.cell? ⟨y.rI,v,none⟩=some (.int .i64 (qi:Int)):=by rw[HQ.out.1.rI.cell,zaa (by rw[HB.out.2.1];exact hv),<-U];rfl
     have lv:wr.cell? ⟨y.rL,v,none⟩=some (.int .i64 (ql:Int)):=by rw[HQ.out.1.rL.cell,zaa (by rw[HB.out.1];exact hv),<-O];rfl
     by_cases he:ql=qi
     .subst he;have Q:Hid (tvisit (K0 ns) (f+1) s v=q.close v):=hid (by rw[r.out];unfold tfin;rw[if_pos (by rw[U,O])]);clear U O r;go_upto_region 16 with fail;go_quiet (fail);go_upto_region 18 with fail;obtain⟨T,hT⟩:=V.out;have ao:v∉T:=by
       have h1:=zeh hT.inv.ord;rw[hT.stk,List.nodup_append]at h1;exact(List.nodup_cons.1 h1.2.1).1
      have aQ:=hid hT.stk;have a9:=hid (zta hT.stk);have a4:=hid (zs9 hT.stk ao);have a1:Hid (∀x∈v::T,x<ns.length):=hid (fun x hx=>(hT.inv.stv x (by rw[hT.stk];exact List.mem_append_right _ hx)).1);have aY:=hid ao;have hTl:T.length<=1073741823:=by have:=HB.out.2.2.2.2.2.2.1;rw[hT.stk]at this;simp at this;omega
      obtain⟨m,j,bb,_⟩:=HQ.out.1.siz.form;subst bb;clear hT ao i0 l0 a0 iv lv;go_loopw [16] (fun s16 wp=>∃(k:Nat) (sk2:Value),k<=T.length/\s16=.int .i64 k/\Hid (TAt y B D (some C) c root vs ns wp ((T.reverse.take k).foldl Gr.TS.drop1 q) sk2 (.slice m q.sizes.length j)/\TF y sv zv w wp sk2 (.slice m q.sizes.length j)/\ABox y D wp sk2 (.slice m q.sizes.length j) bA v)) (fun s16 _=>T.length+1-(intOf s16).toNat)
      case atStart=>exact⟨0,sk,by omega,rfl,hid ⟨by simpa using HQ.out.1.drewN _,aF.out.drewN _,HQ.out.2.2.kept N.out ((TF.refl _ _ _ _).drewN _)⟩⟩
      case round=>
       obtain⟨k,sk2,hk,rfl,o⟩:=hrel;obtain⟨d1,d2,d3,d4⟩:=a9.out k hk;obtain⟨L,x,ar,aP,aS⟩:∃L x,s.stk++v::T.take (T.length-k)=L++[x]/\((k=T.length/\x=v)\/(k<T.length/\x≠v/\T.reverse.take (k+1)=T.reverse.take k++[x]))/\x<ns.length:=by
        by_cases hkT:k<T.length
        .refine⟨s.stk++v::T.take (T.length-(k+1)),T[T.length-(k+1)]'(by omega),?_,.inr ⟨hkT,fun e=>aY.out (e▸Q4 _),?_⟩,a1.out _ (.tail _ (Q4 _))⟩
         .have:=K4 (l:=T) (i:=T.length-(k+1)) (by omega);rw[show T.length-(k+1)+1=T.length-k from by omega]at this;rw[this];simp
         .have aw:k<T.reverse.length:=by simpa using hkT
          rw[K4 aw]
          congr 2
          rw[List.getElem_reverse]
          congr 1
          omega
        .refine⟨s.stk,v,?_,.inl ⟨by omega,rfl⟩,hv⟩;rw[show T.length-k=0 from by omega];simp
       rw[ar]at d1;obtain⟨p,hp⟩:=ex ((T.reverse.take k).foldl Gr.TS.drop1 q)
       rw[hp]at d1 d2 d3 d4;have K:TAt y B D (some C) c root vs ns wr p sk2 (.slice m q.sizes.length j):=by have:=o.out.1;rw[hp]at this;exact this
       have d:=K.stk;rw[d1]at d;obtain⟨g,a,H,aj⟩:=d.shape (by simp);rw[Q1,V9,Z4]at H aj;obtain⟨h,ac⟩:=ex L.length
       rw[ac]at H aj;obtain⟨A',c',an,ay⟩:=d.form;have a8:A'=some ⟨g,0,none⟩:=by rw[H]at an;injection an with e1 _ _;exact e1.symm
       subst a8;obtain⟨aI,e2,_,y0⟩:=zaf (k:=h) ay (by simp;omega);injection e2 with e2
       subst e2;have aR:(L++[x])[h]'(by simp;omega)=x:=by subst ac;simp
       rw[aR]at y0;have y1:wr.cell? ⟨g,h,none⟩=some (.int .i64 (x:Int)):=by
        have e:(⟨g,0,none⟩:Addr).add h=⟨g,h,none⟩:=by unfold Addr.add;split<;>simp_all
        rwa[e]at y0
       have s0:wr.cell? ⟨y.bS,0,none⟩=some (.slice (some ⟨g,0,none⟩) (h+1) a):=by rw[K.bS.cell 0];show some sk2=_;rw[H]
       have sf:∀i,wr.frozen? ⟨y.bS,i,none⟩=false:=K.bS.frozen;have t1:((h:Int)+1-1)=(h:Int):=by omega
       have a7:=fun W=>zte g (h+1) a h (by omega) W
       have hcapI:(h:Int)+1<=(a:Int):=by omega
       have hnb:h<=1073741823:=by
        have h1:=HB.out.2.2.2.2.2.2.1;have h2:(s.stk++v::T.take (T.length-k)).length=(L++[x]).length:=by rw[ar]
        rw[aQ.out]at h1;simp at h1 h2;omega
       have hxI:(x:Int)<(ns.length:Int):=by omega
       have aL:OwnRow intL wr D 3 (.slice (some ⟨g,0,none⟩) h a) L:=by
        have h1:OwnRow intL wr D 3 (.slice (some ⟨g,0,none⟩) (h+1) a) (L++[x]):=by rw[<-H];exact d
        have:=h1.drop1;rwa[ac]at this
       have am:(Value.slice (some ⟨g,0,none⟩) h a).ownBlock=sk2.ownBlock:=by rw[H];rfl
       have aB:∀k,(Value.slice (some ⟨g,0,none⟩) h a).ownBlock=some k->(Value.slice m q.sizes.length j).ownBlock≠some k:=fun k e=>K.apart k (am▸e)
       have aV:=hid K;have aT:=hid aL;have aK:=hid am;have aG:=hid aB;have HD:Hid (p.sizes=q.sizes/\p.on.length=ns.length/\p.inn.length=ns.length/\p.stk=L++[x]):=hid ⟨d2,d3.trans HB.out.2.2.2.2.1,d4.trans HB.out.2.2.2.2.2.1,d1⟩;have aM:=hid hp;have az:=hid aP;clear aL am aB K d an ay y0 aR H ac d1 d2 d3 d4 hp ar aP;go_upto_region 20 with fail;obtain⟨J,ae⟩:=ex (wr.setCell ⟨y.bS,0,none⟩ (.slice (some ⟨g,0,none⟩) h a))
       have Z:TAt y B D (some C) c root vs ns J {p with stk:=L} (.slice (some ⟨g,0,none⟩) h a) (.slice m q.sizes.length j):=by rw[<-ae];exact aV.out.setS aT.out aG.out
       have f5:TF y sk2 (.slice m q.sizes.length j) wr J (.slice (some ⟨g,0,none⟩) h a) (.slice m q.sizes.length j):=by rw[<-ae];exact((TF.refl _ _ _ _).set y.bS 0 (by simp) _).reval aK.out
       (try rw[ae]);have o0:J.cell? ⟨y.bO,0,none⟩=some (.slice (some ⟨y.rO,0,none⟩) ns.length ns.length):=Z.xO.cell 0;have ov:J.cell? ⟨y.rO,x,none⟩=some (.bool (p.on.getD x false)):=by rw[Z.rO.cell,zae (by rw[HD.out.2.1];exact aS)]
       have of:∀i,J.frozen? ⟨y.rO,i,none⟩=false:=Z.rO.frozen;have H5:=hid Z;have F5:=hid f5;clear ae Z f5 s0 sf y1 a7 aV aT aG aK;go_upto_region 21 with fail;obtain⟨w6,ag⟩:=ex (J.setCell ⟨y.rO,x,none⟩ (.bool false))
       have h6:TAt y B D (some C) c root vs ns w6 {p with stk:=L,on:=p.on.set x false} (.slice (some ⟨g,0,none⟩) h a) (.slice m q.sizes.length j):=by rw[<-ag];exact H5.out.setO x false
       have f6:TF y sk2 (.slice m q.sizes.length j) wr w6 (.slice (some ⟨g,0,none⟩) h a) (.slice m q.sizes.length j):=by rw[<-ag];exact F5.out.set y.rO x (by simp) _
       (try rw[ag]);have c0:w6.cell? ⟨y.bC,0,none⟩=some (.slice (some ⟨y.rC,0,none⟩) ns.length ns.length):=h6.xC.cell 0;have z0:w6.cell? ⟨y.bZ,0,none⟩=some (.slice m q.sizes.length j):=h6.bZ.cell 0;have cv:w6.cell? ⟨y.rC,x,none⟩=some (.int .i64 (p.inn.getD x (-1))):=by rw[h6.rC.cell,zb6 (by rw[HD.out.2.2.1];exact aS)]
       have cf:∀i,w6.frozen? ⟨y.rC,i,none⟩=false:=h6.rC.frozen;have H6:=hid h6;have F6:=hid f6;clear ag h6 f6 o0 ov of H5 F5;go_upto_region 22 with fail;obtain⟨w7,af⟩:=ex (w6.setCell ⟨y.rC,x,none⟩ (.int .i64 (q.sizes.length:Int)))
       have h7:TAt y B D (some C) c root vs ns w7 (p.drop1 x) (.slice (some ⟨g,0,none⟩) h a) (.slice m q.sizes.length j):=by
        have:=H6.out.setC x (q.sizes.length:Int);rw[af]at this;have e:p.drop1 x={p with stk:=L,on:=p.on.set x false,inn:=p.inn.set x (q.sizes.length:Int)}:=by
         unfold Gr.TS.drop1;rw[HD.out.2.2.2,HD.out.1,List.dropLast_concat]
        rw[e];exact this
       have f7:TF y sk2 (.slice m q.sizes.length j) wr w7 (.slice (some ⟨g,0,none⟩) h a) (.slice m q.sizes.length j):=by rw[<-af];exact F6.out.set y.rC x (by simp) _
       (try rw[af]);have ax:=o.out.2.2.kept N.out f7;have a0:w7.cell? ⟨bA,0,none⟩=some (.int .i64 (v:Int)):=ax.b.cell 0;have aO:=hid ax;have H7:=hid h7;have F7:=hid f7;clear af h7 f7 c0 z0 cv cf H6 F6 ax;by_cases hkT:k<T.length
       .have ab:=az.out.resolve_left (fun e=>by omega);have R:¬((x:Int)=(v:Int)):=by have:=ab.2.1;omega
        have aC:((x:Int)==(v:Int))=false:=by simpa using R
        have S:Hid (TAt y B D (some C) c root vs ns w7 ((T.reverse.take (k+1)).foldl Gr.TS.drop1 q) (.slice (some ⟨g,0,none⟩) h a) (.slice m q.sizes.length j)/\TF y sv zv w w7 (.slice (some ⟨g,0,none⟩) h a) (.slice m q.sizes.length j)/\ABox y D w7 (.slice (some ⟨g,0,none⟩) h a) (.slice m q.sizes.length j) bA v):=hid ⟨by
         rw[ab.2.2,X2,aM.out];exact H7.out,o.out.2.1.trans F7.out,aO.out⟩
        clear ab o;go_wp2;go_roundw
        case rel=>exact⟨k+1,_,by omega,by go_num,S⟩
        case measure=>simp[intOf];omega
       .have ab:=az.out.resolve_right (fun e=>hkT e.1);obtain⟨ai,F⟩:=ab;have R:(x:Int)=(v:Int):=by omega
        have aC:((x:Int)==(v:Int))=true:=by simpa using R
        have HX:Hid (q.close v={(p.drop1 x)with sizes:=q.sizes++[k+1]}):=hid (by
         rw[a4.out,<-aM.out,F,ai,Q8 (by simp)])
        have a2:=hid (o.out.2.1.trans F7.out);have HO:Hid (OwnRow intL w7 D 3 (.slice m q.sizes.length j) q.sizes):=hid (by have:=H7.out.siz;rw[show(p.drop1 x).sizes=q.sizes from HD.out.1]at this;exact this);have z0:w7.cell? ⟨y.bZ,0,none⟩=some (.slice m q.sizes.length j):=H7.out.bZ.cell 0;have e0:=X0 w7 _ z0;have hDw:=H7.out.hd;have hqs:q.sizes.length<=1073741823:=HB.out.2.2.2.2.2.2.2;clear F hkT o ai aO;go_upto_region 24 with fail;go_wp2_with (at_builtin;go_must (refine zab _ rfl (.tmp 99) (.tmp 101) 35 3 8 rfl intT D (.slice m q.sizes.length j) q.sizes rfl (HO.out.alloc _) _ _ 1 [k+1] rfl (V1 _ _ rfl _ ?_) ?_ ?_ ?_))
        any_goals (first|rfl|omega| (simp;omega)| (rw[K6];omega))
        intro v' w8 d hg aJ;have aa:=H7.out.alloc (.cells #[.int .i64 ((k:Int)+1)] 3);have au:Blk w8 y.bZ 35 _:=aa.bZ.grown hg (fun e=>zb2 aa.siz aa.bZ (by decide) e.symm);have pc3:w8.cell? ⟨y.bZ,0,none⟩=some (.slice m q.sizes.length j):=au.cell 0;have pf3:∀i,w8.frozen? ⟨y.bZ,i,none⟩=false:=au.frozen;obtain⟨g3,ak,aH,_⟩:=d.shape (by simp);obtain⟨n3,aE⟩:=ex ((q.sizes++[k+1]).length)
        rw[aE]at aH;subst aH;have aN:=hid aa;have aX:=hid d;have HG:=hid hg;have a6:=hid aJ;clear aa d hg aJ au aE;go_wp2_with fail;go_end0;have al:(Value.slice (some ⟨g3,0,none⟩) n3 ak).ownBlock=(Value.slice m q.sizes.length j).ownBlock\/(Value.slice (some ⟨g3,0,none⟩) n3 ak).ownBlock=some (w7.alloc (.cells #[.int .i64 ((k:Int)+1)] 3)).heap.size:=by rw[K6];exact a6.out
        have f8:=(a2.out.alloc (.cells #[.int .i64 ((k:Int)+1)] 3)).trans (TF.grownZ aN.out HG.out al);have h8:=aN.out.grownZ aX.out HG.out al;rw[Q.out,HX.out];exact⟨rfl,_,_,h8,f8⟩
     .have a3:¬((ql:Int)=(qi:Int)):=by omega
      have hneb:((ql:Int)==(qi:Int))=false:=by simpa using a3
      have Q:Hid (tvisit (K0 ns) (f+1) s v=q):=hid (by rw[r.out];unfold tfin;rw[if_neg (by rw[U,O];exact he)]);clear U O r he;go_upto_region 16 with fail;go_quiet (fail);go_wp2_with fail;refine W6 (v:=.tuple #[]) (by simp[results,results63,go_sem]) rfl ?_;rw[Q.out];exact⟨rfl,sk,zk,HQ.out.1.drewN _,aF.out.drewN _⟩
end
section
variable {y:TL} {B D:Nat} {A:Option Addr} {c:Nat} {root:Int} {vs:List NV} {ns:List U2}
theorem zml (hr:Refs ns) (hl:ns.length<=1073741823) (hks:∀n∈ns,n.keys.length<=1073741823/\n.items.length<=1073741823):
 ∀(f:Nat) (s:Gr.TS) (v:Nat) (G:Nat->Prop) (w:World) (sv zv:Value),TAt y B D A c root vs ns w s sv zv->Z1 (K0 ns) ns.length G s->v<ns.length->s.ix v=0->(∀g,G g->Y8 (K0 ns) g v)->unv ns.length s<=f->
 Calls prog 63 (y.args (.int .i64 v)) w (TPost y B D A c root vs ns w sv zv (tvisit (K0 ns) f s v)):=by
 intro f
 induction f with
 |zero=>
  intro s v G w sv zv h N T p u Z;have:=zeo N T p;omega
 |succ f ih=>
  intro s v G w sv zv h N T p u Z;have hvI:(v:Int)<(ns.length:Int):=by omega
  have hnx:s.next<=1073741823:=by have:=N.bn;omega
  have hsl:s.stk.length<=1073741823:=by have:=N.bz;omega
  have IH:=hid ih;have O:Hid ((∀g,G g->Y8 (K0 ns) g v)/\unv ns.length s<=f+1):=hid ⟨u,Z⟩;have HI:=hid N;have a:=hid h.ok;have P:=h.alloc (.cells #[.int .i64 v] 3);have r:ABox y D (w.alloc (.cells #[.int .i64 v] 3)) sv zv w.heap.size v:=⟨Q5 _ _ _,h.hd,fun e=>by have:=(h.stk.lt _ e).2;omega,fun e=>by have:=(h.siz.lt _ e).2;omega⟩
  have E:TF y sv zv w (w.alloc (.cells #[.int .i64 v] 3)) sv zv:=(TF.refl _ _ _ _).alloc _;have H:=hid h;clear ih N u Z h;unfold TL.args;go_enter func63,ntmps63;obtain⟨Y,L⟩:=ex (w.alloc (.cells #[.int .i64 v] 3))
  rw[L]at P r E;obtain⟨M,I⟩:=ex w.heap.size
  have n0:Y.cell? ⟨y.bN,0,none⟩=some (.int .i64 (s.next:Int)):=P.bN.cell 0;have nf:∀i,Y.frozen? ⟨y.bN,i,none⟩=false:=P.bN.frozen;have hw:IntKind.i64.wrap ((s.next:Int)+1)=(s.next:Int)+1:=K5 _ (by omega);go_upto_region 1 with fail;(try rw[L]);rw[I]at r;(try rw[I]);clear L I;go_upto_region 2 with fail;obtain⟨m,q⟩:=ex (Y.setCell ⟨y.bN,0,none⟩ (.int .i64 ((s.next:Int)+1)))
  have K:TF y sv zv Y m sv zv:=by rw[<-q];exact(TF.refl _ _ _ _).set y.bN 0 (.inl rfl) _
  have d:TAt y B D A c root vs ns m {s with next:=s.next+1} sv zv:=by rw[<-q];exact P.setN (s.next+1)
  have j:=r.kept a.out K;have W:=hid (E.trans K);rw[q];have i0:m.cell? ⟨y.bI,0,none⟩=some (.slice (some ⟨y.rI,0,none⟩) ns.length ns.length):=d.xI.cell 0;have l0:m.cell? ⟨y.bL,0,none⟩=some (.slice (some ⟨y.rL,0,none⟩) ns.length ns.length):=d.xL.cell 0;have a0:m.cell? ⟨M,0,none⟩=some (.int .i64 (v:Int)):=j.b.cell 0;have n1:m.cell? ⟨y.bN,0,none⟩=some (.int .i64 ((s.next:Int)+1)):=d.bN.cell 0;have rf:∀i,m.frozen? ⟨y.rI,i,none⟩=false:=d.rI.frozen;have lf:∀i,m.frozen? ⟨y.rL,i,none⟩=false:=d.rL.frozen;have xv:m.cell? ⟨y.rI,v,none⟩=some (.int .i64 0):=by
   rw[d.rI.cell,zaa (by show v<s.idx.length;rw[HI.out.li];exact T)];show some (Value.int .i64 ((s.ix v:Nat):Int))=_;rw[p];rfl
  have yv:m.cell? ⟨y.rL,v,none⟩=some (.int .i64 ((s.lw v:Nat):Int)):=by
   rw[d.rL.cell,zaa (by show v<s.low.length;rw[HI.out.ll];exact T)];rfl
  have q1:y.bN≠y.rI:=a.out.nI;have q2:y.bN≠y.rL:=a.out.nL;have q3:y.rI≠y.rL:=a.out.iL;have q4:y.rL≠y.rI:=a.out.iL.symm;have q5:y.bL≠y.rI:=d.xL.ne_ d.rI (by decide);have q6:y.bL≠y.rL:=d.xL.ne_ d.rL (by decide);have q7:y.bI≠y.rI:=d.xI.ne_ d.rI (by decide);have q8:y.bI≠y.rL:=d.xI.ne_ d.rL (by decide);have q9:M≠y.rI:=by have:=j.hi;have:=a.out.dI;omega
  have aa:M≠y.rL:=by have:=j.hi;have:=a.out.dL;omega
  have H2:=hid d;have Q:=hid j;clear P r E n0 nf hw q K d j;go_cut [24] (fun _ C=>TAt y B D A c root vs ns C {s with next:=s.next+1,idx:=s.idx.set v (s.next+1),low:=s.low.set v (s.next+1)} sv zv/\TF y sv zv w C sv zv/\ABox y D C sv zv M v)
  case first=>
   go_region
   all_goals
    go_wp2;go_meet;exact⟨((H2.out.setI v (s.next+1)).setL v (s.next+1)).drew,((W.out.set y.rI v (by simp) _).set y.rL v (by simp) _).drew,
     Q.out.kept a.out (((TF.refl _ _ _ _).set y.rI v (by simp) _).set y.rL v (by simp) _).drew⟩
  case rest=>
   obtain⟨t,X,U⟩:=hcut;clear i0 l0 a0 n1 rf lf xv yv q1 q2 q3 q4 q5 q6 q7 q8 q9 aa H2 Q W;obtain⟨As,cs,o,_⟩:=t.stk.form;have s0:wc.cell? ⟨y.bS,0,none⟩=some (.slice As s.stk.length cs):=by rw[t.bS.cell 0];show some sv=_;rw[o]
   have a0:wc.cell? ⟨M,0,none⟩=some (.int .i64 (v:Int)):=U.b.cell 0;have e0:=X0 wc _ s0;have HO:Hid (OwnRow intL wc D 3 (.slice As s.stk.length cs) s.stk):=hid (by have:=t.stk;rw[o]at this;exact this);have ac:=hid o;have HT:=hid t;have HF:=hid X;have HA:=hid U;have hDw:=t.hd;clear o t X U;go_upto_region 3 with fail;go_cut [28] (fun _ C=>∃sv2,TAt y B D A c root vs ns C {s with next:=s.next+1,idx:=s.idx.set v (s.next+1),low:=s.low.set v (s.next+1),stk:=s.stk++[v]} sv2 zv/\TF y sv zv w C sv2 zv/\ABox y D C sv2 zv M v)
   case first=>
    go_wp2_with (at_builtin;go_must (refine zab _ rfl (.tmp 28) (.tmp 30) 35 3 8 rfl intT D (.slice As s.stk.length cs) s.stk rfl (HO.out.alloc _) _ _ 1 [v] rfl (V1 _ _ rfl _ ?_) ?_ ?_ ?_))
    any_goals (first|rfl|omega| (simp;omega)| (rw[K6];omega))
    intro v' w3 k u F;have l:=HT.out.alloc (.cells #[.int .i64 v] 3);rw[<-ac.out]at u F;have J:Blk w3 y.bS 35 _:=l.bS.grown u (fun e=>zb2 l.stk l.bS (by decide) e.symm);have pc3:w3.cell? ⟨y.bS,0,none⟩=some sv:=J.cell 0;have pf3:∀i,w3.frozen? ⟨y.bS,i,none⟩=false:=J.frozen;obtain⟨g3,x,V,_⟩:=k.shape (by simp);obtain⟨n3,S⟩:=ex ((s.stk++[v]).length)
    rw[S]at V;subst V;have R:=hid l;have ab:=hid k;have HG:=hid u;have ad:=hid F;clear l k u F J S;go_wp2;go_meet;have f1:=(TF.refl y sv zv wc).alloc (.cells #[.int .i64 v] 3);have z:(Value.slice (some ⟨g3,0,none⟩) n3 x).ownBlock=sv.ownBlock\/(Value.slice (some ⟨g3,0,none⟩) n3 x).ownBlock=some (wc.alloc (.cells #[.int .i64 v] 3)).heap.size:=by rw[K6];exact ad.out
    have f2:=f1.trans (TF.grownS R.out HG.out z);exact⟨_,R.out.grownS ab.out HG.out z,HF.out.trans f2,HA.out.kept a.out f2⟩
   case rest=>
    obtain⟨ae,t,X,U⟩:=hcut;rename_i hK0;apply hK0;exact zmk hr hl hks HI.out T p O.out.1 O.out.2 IH.out w _ sv zv ae M t X U
end
def compL (z gb b0 b1 b2 r0 r1 r2:Nat):TL:=⟨z+1+1+1+1,b0,b1,z+1,z+1+1+1,z+1+1+1+1+1,gb,z,b2,r0,r1,r2,z+1+1⟩
theorem zmm (B z gb b0 b1 b2 r0 r1 r2:Nat) (A:Option Addr) (c:Nat) (root:Int) (vs:List NV) (ns:List U2) (wr W:World) (hz:wr.heap.size=z)
 (hW:((((((wr.alloc (.cells #[.slice none 0 0] 35)).alloc (.cells #[.slice none 0 0] 35)).alloc (.cells (bcells (K1 ns.length false)) 4)).alloc (.cells #[.slice (some ⟨z+1+1,0,none⟩) ns.length ns.length] 44)).alloc (.cells #[.int .i64 0] 3)).alloc (.cells #[(compL z gb b0 b1 b2 r0 r1 r2).fn] 70))=W)
 (hI:Blk wr b0 35 #[.slice (some ⟨r0,0,none⟩) ns.length ns.length]) (hL:Blk wr b1 35 #[.slice (some ⟨r1,0,none⟩) ns.length ns.length]) (hC:Blk wr b2 35 #[.slice (some ⟨r2,0,none⟩) ns.length ns.length])
 (hrI:Blk wr r0 3 (icells (K1 ns.length 0))) (hrL:Blk wr r1 3 (icells (K1 ns.length 0))) (hrC:Blk wr r2 3 (jcells (K1 ns.length (-1))))
 (hG:Blk wr gb 24 #[.slice A ns.length c,.int .i64 root]) (h01:r0≠r1) (h02:r0≠r2) (h12:r1≠r2) (hB:B<=z) (hB0:B<=r0) (hB1:B<=r1) (hB2:B<=r2) (hat:GAt wr B A vs ns):
 TAt (compL z gb b0 b1 b2 r0 r1 r2) B (z+1+1+1+1+1+1) A c root vs ns W (Gr.tzero ns.length) (.slice none 0 0) (.slice none 0 0)/\Below wr.heap.size wr W/\W.heap.size=z+1+1+1+1+1+1:=by
 have l:Below wr.heap.size wr W:=by rw[<-hW];exact((((((K2 _ _).alloc (K3 _) _).alloc (by simp) _).alloc (by simp;omega) _).alloc (by simp;omega) _).alloc (by simp;omega) _).alloc (by simp;omega) _
 have j:W.heap.size=z+1+1+1+1+1+1:=by rw[<-hW];simp[hz]
 have g:=hI.lt;have m:=hL.lt;have i:=hC.lt;have b:=hrI.lt;have d:=hrL.lt;have a:=hrC.lt;have f:Blk W z 35 #[.slice none 0 0]:=by rw[<-hW,<-hz];exact(((((Q5 _ _ _).alloc _).alloc _).alloc _).alloc _).alloc _
 have n:Blk W (z+1) 35 #[.slice none 0 0]:=by
  rw[<-hW];have:=Q5 (wr.alloc (.cells #[.slice none 0 0] 35)) 35 #[.slice none 0 0];rw[K6,hz]at this;exact(((this.alloc _).alloc _).alloc _).alloc _
 have h:Blk W (z+1+1) 4 (bcells (K1 ns.length false)):=by
  rw[<-hW];have:=Q5 ((wr.alloc (.cells #[.slice none 0 0] 35)).alloc (.cells #[.slice none 0 0] 35)) 4 (bcells (K1 ns.length false));simp only[K6,hz]at this;exact(((this.alloc _).alloc _).alloc _)
 have o:Blk W (z+1+1+1) 44 #[.slice (some ⟨z+1+1,0,none⟩) ns.length ns.length]:=by
  rw[<-hW];have:=Q5 (((wr.alloc (.cells #[.slice none 0 0] 35)).alloc (.cells #[.slice none 0 0] 35)).alloc (.cells (bcells (K1 ns.length false)) 4)) 44 #[.slice (some ⟨z+1+1,0,none⟩) ns.length ns.length];simp only[K6,hz]at this;exact((this.alloc _).alloc _)
 have p:Blk W (z+1+1+1+1) 3 #[.int .i64 0]:=by
  rw[<-hW];have:=Q5 ((((wr.alloc (.cells #[.slice none 0 0] 35)).alloc (.cells #[.slice none 0 0] 35)).alloc (.cells (bcells (K1 ns.length false)) 4)).alloc (.cells #[.slice (some ⟨z+1+1,0,none⟩) ns.length ns.length] 44)) 3 #[.int .i64 0];simp only[K6,hz]at this;exact(this.alloc _)
 have q:Blk W (z+1+1+1+1+1) 70 #[(compL z gb b0 b1 b2 r0 r1 r2).fn]:=by
  rw[<-hW];have:=Q5 (((((wr.alloc (.cells #[.slice none 0 0] 35)).alloc (.cells #[.slice none 0 0] 35)).alloc (.cells (bcells (K1 ns.length false)) 4)).alloc (.cells #[.slice (some ⟨z+1+1,0,none⟩) ns.length ns.length] 44)).alloc (.cells #[.int .i64 0] 3)) 70 #[(compL z gb b0 b1 b2 r0 r1 r2).fn];simp only[K6,hz]at this;exact this
 refine⟨⟨⟨?_,?_,?_,h01,h02,h12,?_,?_,?_,?_,?_,?_,?_,?_,?_,?_,?_,?_,?_,?_,?_⟩,by omega,hI.below l g,hL.below l m,hC.below l i,o,q,hG.below l hG.lt,hat.below (l.mono (by omega)),p,n,f,hrI.below l b,hrL.below l d,hrC.below l a,h,Y7,Y7,fun k e=>by cases e⟩,l,j⟩
 all_goals (simp only[compL];omega)
section
variable {P:Program} {md:Region.Mode} {ops:Array Oper} {Q:Exit->Act->World->Prop}
theorem zmn (Inv:Nat->Array Bool->Act->World->Prop)
 (hstep:∀m listed a w i,Inv m listed a w->i∈Region.ready md ops listed->∃m',m=m'+1/\wpOp P ops Q i (fun a' w'=>Inv m' (listed.setIfInBounds i true) a' w') a w)
 (hend:∀m listed a w,Inv m listed a w->Region.ready md ops listed=[]->Q .normal a w):
 ∀fuel listed a w,Inv fuel listed a w->wpAny P md ops Q fuel listed a w:=by
 intro fuel
 induction fuel with
 |zero=>
  intro listed a w h;have b:Region.ready md ops listed=[]:=X5.2 (fun i c=>by obtain⟨m',d,_⟩:=hstep _ _ _ _ i h c;omega);exact⟨b,hend _ _ _ _ h b⟩
 |succ fuel ih=>
  intro listed a w h;refine⟨fun b=>hend _ _ _ _ h b,fun i c=>?_⟩;obtain⟨m',d,e⟩:=hstep _ _ _ _ i h c;obtain rfl:m'=fuel:=by omega
  exact wpOp_mono (fun a w h=>ih _ _ _ h) e
variable {i:Nat} {o:Oper} {K:Act->World->Prop} {a:Act} {w w':World}
theorem zbo (v:Value) (ho:ops[i]? =some o) (hg:o.guard=none) (hrun:(execOp a.eval o).run P w=.ok (.value v) w') (hK:K (a.put o.dst v) w'):wpOp P ops Q i K a w:=by
 unfold wpOp;rw[ho];simp only[Region.wanted,hg,if_true];left;unfold Oper.wp;rw[hrun];exact hK
theorem zj6 (ho:ops[i]? =some o) (hg:o.guard=none) (hrun:(execOp a.eval o).run P w=.ok .skip w') (hK:K (a.put o.dst undef) w'):wpOp P ops Q i K a w:=by
 unfold wpOp;rw[ho];simp only[Region.wanted,hg,if_true];left;unfold Oper.wp;rw[hrun];exact hK
end
structure Mk3 (n:Nat) (w1 W:World) (f:Nat->Bool) (r b:Nat->Nat):Prop where
 below:Below w1.heap.size w1 W
 row:∀j,j<3->f (2*j+1)=true->w1.heap.size<=r j/\Blk W (r j) 3 (icells (K1 n 0))
 box:∀j,j<3->f (6+j)=true->w1.heap.size<=b j/\Blk W (b j) 35 #[if f (9+j)then .slice (some ⟨r j,0,none⟩) n n else .slice none 0 0]
 rr:∀j k,j<3->k<3->j≠k->f (2*j+1)=true->f (2*k+1)=true->r j≠r k
 bb:∀j k,j<3->k<3->j≠k->f (6+j)=true->f (6+k)=true->b j≠b k
def upd {α:Type} (f:Nat->α) (i:Nat) (x:α):Nat->α:=fun k=>if k=i then x else f k
theorem Mk3.start (n:Nat) (w1:World) (r b:Nat->Nat):Mk3 n w1 w1.drew (fun _=>false) r b:=
 ⟨below_drewN (K2 _ _) 1,fun _ _ h=>by(cases h),fun _ _ h=>by(cases h),fun _ _ _ _ _ h=>by(cases h),fun _ _ _ _ _ h=>by(cases h)⟩
variable {n:Nat} {w1 W:World} {f:Nat->Bool} {r b:Nat->Nat}
theorem Mk3.mark (h:Mk3 n w1 W f r b) (i:Nat) (hi:i=0\/i=2\/i=4):Mk3 n w1 W (upd f i true) r b:=by
 have e:∀k,k≠i->upd f i true k=f k:=fun k c=>by unfold upd;rw[if_neg c]
 refine⟨h.below,fun j a=>?_,fun j a=>?_,fun j k a c=>?_,fun j k a c=>?_⟩
 .rw[e _ (by omega)];exact h.row j a
 .rw[e _ (by omega),e _ (by omega)];exact h.box j a
 .rw[e _ (by omega),e _ (by omega)];exact h.rr j k a c
 .rw[e _ (by omega),e _ (by omega)];exact h.bb j k a c
theorem Mk3.make (h:Mk3 n w1 W f r b) (j0:Nat) (hj0:j0<3) (hs:f (9+j0)=false):Mk3 n w1 (W.alloc (.cells (icells (K1 n 0)) 3)) (upd f (2*j0+1) true) (upd r j0 W.heap.size) b:=by
 have e:∀k,k≠2*j0+1->upd f (2*j0+1) true k=f k:=fun k c=>by unfold upd;rw[if_neg c]
 have l:∀k,k≠j0->upd r j0 W.heap.size k=r k:=fun k c=>by unfold upd;rw[if_neg c]
 have g:upd r j0 W.heap.size j0=W.heap.size:=by unfold upd;rw[if_pos rfl]
 have i:=h.below.size;refine⟨h.below.alloc i _,fun j d a=>?_,fun j d=>?_,fun j k d c q a o=>?_,fun j k d c=>?_⟩
 .by_cases hjj:j=j0
  .subst hjj;rw[g];exact⟨i,Q5 _ _ _⟩
  .rw[e _ (by omega)]at a;rw[l _ hjj];obtain⟨p,m⟩:=h.row j d a;exact⟨p,m.alloc _⟩
 .rw[e _ (by omega),e _ (by omega)];intro a;obtain⟨p,m⟩:=h.box j d a;refine⟨p,?_⟩;by_cases hjj:j=j0
  .subst hjj;rw[hs]at m ⊢;exact m.alloc _
  .rw[l _ hjj];exact m.alloc _
 .by_cases hjj:j=j0
  .subst hjj;rw[g,l k (by omega)];rw[e _ (by omega)]at o;have:=(h.row k c o).2.lt;omega
  .rw[e _ (by omega)]at a;rw[l j hjj];by_cases hkk:k=j0
   .subst hkk;rw[g];have:=(h.row j d a).2.lt;omega
   .rw[e _ (by omega)]at o;rw[l k hkk];exact h.rr j k d c q a o
 .rw[e _ (by omega),e _ (by omega)];exact h.bb j k d c
theorem Mk3.boxed (h:Mk3 n w1 W f r b) (j0:Nat) (hj0:j0<3) (hs:f (9+j0)=false):Mk3 n w1 (W.alloc (.cells #[.slice none 0 0] 35)) (upd f (6+j0) true) r (upd b j0 W.heap.size):=by
 have e:∀k,k≠6+j0->upd f (6+j0) true k=f k:=fun k c=>by unfold upd;rw[if_neg c]
 have m:∀k,k≠j0->upd b j0 W.heap.size k=b k:=fun k c=>by unfold upd;rw[if_neg c]
 have g:upd b j0 W.heap.size j0=W.heap.size:=by unfold upd;rw[if_pos rfl]
 have i:=h.below.size;refine⟨h.below.alloc i _,fun j d=>?_,fun j d a=>?_,fun j k d c=>?_,fun j k d c p a l=>?_⟩
 .rw[e _ (by omega)];intro a;obtain⟨o,q⟩:=h.row j d a;exact⟨o,q.alloc _⟩
 .rw[e (9+j) (by omega)];by_cases hjj:j=j0
  .subst hjj;rw[g,hs];exact⟨i,Q5 _ _ _⟩
  .rw[e _ (by omega)]at a;rw[m _ hjj];obtain⟨o,q⟩:=h.box j d a;exact⟨o,q.alloc _⟩
 .rw[e _ (by omega),e _ (by omega)];exact h.rr j k d c
 .by_cases hjj:j=j0
  .subst hjj;rw[g,m k (by omega)];rw[e _ (by omega)]at l;have:=(h.box k c l).2.lt;omega
  .rw[e _ (by omega)]at a;rw[m j hjj];by_cases hkk:k=j0
   .subst hkk;rw[g];have:=(h.box j d a).2.lt;omega
   .rw[e _ (by omega)]at l;rw[m k hkk];exact h.bb j k d c p a l
theorem Mk3.fill (h:Mk3 n w1 W f r b) (j0:Nat) (hj0:j0<3) (hb:f (6+j0)=true):Mk3 n w1 (W.setCell ⟨b j0,0,none⟩ (.slice (some ⟨r j0,0,none⟩) n n)) (upd f (9+j0) true) r b:=by
 have e:∀k,k≠9+j0->upd f (9+j0) true k=f k:=fun k d=>by unfold upd;rw[if_neg d]
 have o:upd f (9+j0) true (9+j0)=true:=by unfold upd;rw[if_pos rfl]
 obtain⟨m,l⟩:=h.box j0 hj0 hb;refine⟨h.below.setCell (p:=⟨b j0,0,none⟩) m _,fun j a=>?_,fun j a c=>?_,fun j k a d=>?_,fun j k a d=>?_⟩
 .rw[e _ (by omega)];intro c;obtain⟨i,g⟩:=h.row j a c;exact⟨i,g.far (g.ne_ l (by decide)) _⟩
 .rw[e (6+j) (by omega)]at c;obtain⟨i,g⟩:=h.box j a c;refine⟨i,?_⟩;by_cases hjj:j=j0
  .subst hjj;rw[o,if_pos rfl];exact l.set_ 0 _
  .rw[e (9+j) (by omega)];exact g.far (h.bb j j0 a hj0 hjj c hb) _
 .rw[e _ (by omega),e _ (by omega)];exact h.rr j k a d
 .rw[e _ (by omega),e _ (by omega)];exact h.bb j k a d
def left12 (f:Nat->Bool):Nat:=cond (f 0) 0 1+cond (f 1) 0 1+cond (f 2) 0 1+cond (f 3) 0 1+cond (f 4) 0 1+cond (f 5) 0 1+cond (f 6) 0 1+cond (f 7) 0 1+cond (f 8) 0 1+cond (f 9) 0 1+cond (f 10) 0 1+cond (f 11) 0 1
theorem zap (f:Nat->Bool) (i:Nat) (hi:i<12) (h:f i=false):left12 f=left12 (upd f i true)+1:=by
 unfold left12 upd;obtain rfl|rfl|rfl|rfl|rfl|rfl|rfl|rfl|rfl|rfl|rfl|rfl:i=0\/i=1\/i=2\/i=3\/i=4\/i=5\/i=6\/i=7\/i=8\/i=9\/i=10\/i=11:=by omega
 all_goals
  simp only[h,if_true,cond_true,cond_false];simp
  try omega
theorem zf8 (A:Option Addr) (c root:Nat) (vs:List NV) (ns:List U2) (hr:Refs ns) (hl:ns.length<=1073741823) (hks:∀n∈ns,n.keys.length<=1073741823/\n.items.length<=1073741823) (hroot:root<ns.length)
 (w:World) (h:GAt w w.heap.size A vs ns):
 Calls prog 47 #[.agg #[.slice A ns.length c,.int .i64 root]] w fun e w'=>∃rC Az cz,e=.returned (.tuple #[.slice (some ⟨rC,0,none⟩) ns.length ns.length,.slice Az (tcomp (K0 ns) ns.length root).sizes.length cz])/\w.heap.size<=rC/\Below w.heap.size w w'/\
  Blk w' rC 3 (jcells (tcomp (K0 ns) ns.length root).inn)/\OwnRow intL w' w.heap.size 3 (.slice Az (tcomp (K0 ns) ns.length root).sizes.length cz) (tcomp (K0 ns) ns.length root).sizes:=by
 have H:=hid h;have ac:=fun W=>za7 ns.length (by omega) W
 have hmb:=fun W=>zbq ns.length (by omega) W
 have hrI:(root:Int)<(ns.length:Int):=by omega
 clear h;go_enter func47,ntmps47;go_upto_region 2 with fail;obtain⟨w1,af⟩:=ex (w.alloc (.cells #[.slice A ns.length c,.int .i64 root] 24))
 (try rw[af]);have aa:=hid af;obtain⟨X,N⟩:=ex w.heap.size
 (try rw[N]);have ao:=hid N;clear af N;go_cut [5,6,7] (fun s5 s6 s7 wx=>∃r b:Nat->Nat,s5=.pointer (some ⟨b 0,0,none⟩)/\s6=.pointer (some ⟨b 1,0,none⟩)/\s7=.pointer (some ⟨b 2,0,none⟩)/\Hid (Mk3 ns.length w1 wx (fun _=>true) r b))
 case first=>
  refine wp_region_any (by kernel_rfl) ?_;refine zmn (fun m t a' w'=>∃(f:Nat->Bool) (r b:Nat->Nat) (x17 x18 x19 x20 x21 x22 p5 p6 p7:Value),t=#[f 0,f 1,f 2,f 3,f 4,f 5,f 6,f 7,f 8,f 9,f 10,f 11]/\m=left12 f/\Hid (Mk3 ns.length w1 w' f r b)/\(f 0=true->x17=.int .i64 ns.length)/\(f 1=true->x18=.slice (some ⟨r 0,0,none⟩) ns.length ns.length)/\(f 6=true->p5=.pointer (some ⟨b 0,0,none⟩))/\(f 9=true->f 1=true/\f 6=true)/\(f 2=true->x19=.int .i64 ns.length)/\(f 3=true->x20=.slice (some ⟨r 1,0,none⟩) ns.length ns.length)/\(f 7=true->p6=.pointer (some ⟨b 1,0,none⟩))/\(f 10=true->f 3=true/\f 7=true)/\(f 4=true->x21=.int .i64 ns.length)/\(f 5=true->x22=.slice (some ⟨r 2,0,none⟩) ns.length ns.length)/\(f 8=true->p7=.pointer (some ⟨b 2,0,none⟩))/\(f 11=true->f 5=true/\f 8=true)/\a'={tmps:=Q6 (.agg #[.slice A ns.length c,.int .i64 root]::.pointer (some ⟨X,0,none⟩)::.slice none 0 0::.slice none 0 0::.int .i64 ns.length::p5::p6::p7::undef::undef::undef::undef::undef::undef::.pointer (some ⟨X,0,none⟩)::.slice A ns.length c::.int .i64 ns.length::x17::x18::x19::x20::x21::x22::undef::undef::undef::undef::undef::undef::undef::undef::undef::undef::undef::undef::undef::undef::undef::undef::undef::undef::[]),defers:=[]}) ?step ?fin _ _ _ _ ?start
  case start=>
   exact⟨fun _=>false,fun _=>0,fun _=>0,undef,undef,undef,undef,undef,undef,undef,undef,undef,rfl,rfl,hid (Mk3.start _ _ _ _),fun h=>(by cases h),fun h=>(by cases h),fun h=>(by cases h),fun h=>(by cases h),fun h=>(by cases h),fun h=>(by cases h),fun h=>(by cases h),fun h=>(by cases h),fun h=>(by cases h),fun h=>(by cases h),fun h=>(by cases h),fun h=>(by cases h),rfl⟩
  case step=>
   rintro m t a' w' i ⟨f,r,b,x17,x18,x19,x20,x21,x22,p5,p6,p7,rfl,rfl,d,p,F,D,s0,G,I,C,s1,E,J,B,s2,rfl⟩ hi;rw[mem_ready]at hi;obtain⟨q,o,M,Y⟩:=hi;have hi12:i<12:=(Array.getElem?_eq_some_iff.1 M).1;obtain rfl|rfl|rfl|rfl|rfl|rfl|rfl|rfl|rfl|rfl|rfl|rfl:i=0\/i=1\/i=2\/i=3\/i=4\/i=5\/i=6\/i=7\/i=8\/i=9\/i=10\/i=11:=by omega
   .have a:f 0=false:=by simpa using q
    obtain rfl:=Option.some.inj (show some _=some o from M);exact⟨left12 (upd f 0 true),zap f 0 (by omega) a,zbo (.int .i64 ns.length) rfl rfl (by simp[execOp,go_sem]) ⟨upd f 0 true,r,b,.int .i64 ns.length,x18,x19,x20,x21,x22,p5,p6,p7,rfl,rfl,hid (d.out.mark 0 (by omega)),fun _=>rfl,F,D,s0,G,I,C,s1,E,J,B,s2,rfl⟩⟩
   .have a:f 1=false:=by simpa using q
    obtain rfl:=Option.some.inj (show some _=some o from M);have d0:f 0=true:=by simpa using Y ⟨0,.data⟩ (by simp) rfl
    have Q:=p d0;subst Q;have T:f 9=false:=by cases hq:f 9 with|false=>rfl|true=>rw[(s0 hq).1]at a;cases a
    exact⟨left12 (upd f 1 true),zap f 1 (by omega) a,zbo (.slice (some ⟨w'.heap.size,0,none⟩) ns.length ns.length) rfl rfl (by simp[execOp,go_sem,ac]) ⟨upd f 1 true,upd r 0 w'.heap.size,b,.int .i64 ns.length,(.slice (some ⟨w'.heap.size,0,none⟩) ns.length ns.length),x19,x20,x21,x22,p5,p6,p7,rfl,rfl,hid (d.out.make 0 (by omega) T),p,fun _=>rfl,D,fun h=>⟨rfl,(s0 h).2⟩,G,I,C,s1,E,J,B,s2,rfl⟩⟩
   .have a:f 2=false:=by simpa using q
    obtain rfl:=Option.some.inj (show some _=some o from M);exact⟨left12 (upd f 2 true),zap f 2 (by omega) a,zbo (.int .i64 ns.length) rfl rfl (by simp[execOp,go_sem]) ⟨upd f 2 true,r,b,x17,x18,.int .i64 ns.length,x20,x21,x22,p5,p6,p7,rfl,rfl,hid (d.out.mark 2 (by omega)),p,F,D,s0,fun _=>rfl,I,C,s1,E,J,B,s2,rfl⟩⟩
   .have a:f 3=false:=by simpa using q
    obtain rfl:=Option.some.inj (show some _=some o from M);have d0:f 2=true:=by simpa using Y ⟨2,.data⟩ (by simp) rfl
    have Q:=G d0;subst Q;have T:f 10=false:=by cases hq:f 10 with|false=>rfl|true=>rw[(s1 hq).1]at a;cases a
    exact⟨left12 (upd f 3 true),zap f 3 (by omega) a,zbo (.slice (some ⟨w'.heap.size,0,none⟩) ns.length ns.length) rfl rfl (by simp[execOp,go_sem,ac]) ⟨upd f 3 true,upd r 1 w'.heap.size,b,x17,x18,.int .i64 ns.length,(.slice (some ⟨w'.heap.size,0,none⟩) ns.length ns.length),x21,x22,p5,p6,p7,rfl,rfl,hid (d.out.make 1 (by omega) T),p,F,D,s0,G,fun _=>rfl,C,fun h=>⟨rfl,(s1 h).2⟩,E,J,B,s2,rfl⟩⟩
   .have a:f 4=false:=by simpa using q
    obtain rfl:=Option.some.inj (show some _=some o from M);exact⟨left12 (upd f 4 true),zap f 4 (by omega) a,zbo (.int .i64 ns.length) rfl rfl (by simp[execOp,go_sem]) ⟨upd f 4 true,r,b,x17,x18,x19,x20,.int .i64 ns.length,x22,p5,p6,p7,rfl,rfl,hid (d.out.mark 4 (by omega)),p,F,D,s0,G,I,C,s1,fun _=>rfl,J,B,s2,rfl⟩⟩
   .have a:f 5=false:=by simpa using q
    obtain rfl:=Option.some.inj (show some _=some o from M);have d0:f 4=true:=by simpa using Y ⟨4,.data⟩ (by simp) rfl
    have Q:=E d0;subst Q;have T:f 11=false:=by cases hq:f 11 with|false=>rfl|true=>rw[(s2 hq).1]at a;cases a
    exact⟨left12 (upd f 5 true),zap f 5 (by omega) a,zbo (.slice (some ⟨w'.heap.size,0,none⟩) ns.length ns.length) rfl rfl (by simp[execOp,go_sem,ac]) ⟨upd f 5 true,upd r 2 w'.heap.size,b,x17,x18,x19,x20,.int .i64 ns.length,(.slice (some ⟨w'.heap.size,0,none⟩) ns.length ns.length),p5,p6,p7,rfl,rfl,hid (d.out.make 2 (by omega) T),p,F,D,s0,G,I,C,s1,E,fun _=>rfl,B,fun h=>⟨rfl,(s2 h).2⟩,rfl⟩⟩
   .have a:f 6=false:=by simpa using q
    obtain rfl:=Option.some.inj (show some _=some o from M);have T:f 9=false:=by cases hq:f 9 with|false=>rfl|true=>rw[(s0 hq).2]at a;cases a
    exact⟨left12 (upd f 6 true),zap f 6 (by omega) a,zbo (.pointer (some ⟨w'.heap.size,0,none⟩)) rfl rfl (by simp[execOp,go_sem]) ⟨upd f 6 true,r,upd b 0 w'.heap.size,x17,x18,x19,x20,x21,x22,(.pointer (some ⟨w'.heap.size,0,none⟩)),p6,p7,rfl,rfl,hid (d.out.boxed 0 (by omega) T),p,F,fun _=>rfl,fun h=>⟨(s0 h).1,rfl⟩,G,I,C,s1,E,J,B,s2,rfl⟩⟩
   .have a:f 7=false:=by simpa using q
    obtain rfl:=Option.some.inj (show some _=some o from M);have T:f 10=false:=by cases hq:f 10 with|false=>rfl|true=>rw[(s1 hq).2]at a;cases a
    exact⟨left12 (upd f 7 true),zap f 7 (by omega) a,zbo (.pointer (some ⟨w'.heap.size,0,none⟩)) rfl rfl (by simp[execOp,go_sem]) ⟨upd f 7 true,r,upd b 1 w'.heap.size,x17,x18,x19,x20,x21,x22,p5,(.pointer (some ⟨w'.heap.size,0,none⟩)),p7,rfl,rfl,hid (d.out.boxed 1 (by omega) T),p,F,D,s0,G,I,fun _=>rfl,fun h=>⟨(s1 h).1,rfl⟩,E,J,B,s2,rfl⟩⟩
   .have a:f 8=false:=by simpa using q
    obtain rfl:=Option.some.inj (show some _=some o from M);have T:f 11=false:=by cases hq:f 11 with|false=>rfl|true=>rw[(s2 hq).2]at a;cases a
    exact⟨left12 (upd f 8 true),zap f 8 (by omega) a,zbo (.pointer (some ⟨w'.heap.size,0,none⟩)) rfl rfl (by simp[execOp,go_sem]) ⟨upd f 8 true,r,upd b 2 w'.heap.size,x17,x18,x19,x20,x21,x22,p5,p6,(.pointer (some ⟨w'.heap.size,0,none⟩)),rfl,rfl,hid (d.out.boxed 2 (by omega) T),p,F,D,s0,G,I,C,s1,E,J,fun _=>rfl,fun h=>⟨(s2 h).1,rfl⟩,rfl⟩⟩
   .have a:f 9=false:=by simpa using q
    obtain rfl:=Option.some.inj (show some _=some o from M);have K:f 6=true:=by simpa using Y ⟨6,.data⟩ (by simp) rfl
    have d2:f 1=true:=by simpa using Y ⟨1,.data⟩ (by simp) rfl
    have Q:=F d2;subst Q;have hp:=D K;subst hp;have u:=(d.out.box 0 (by omega) K).2;have hc:w'.cell? ⟨b 0,0,none⟩=some (.slice none 0 0):=by rw[u.cell 0];simp[a]
    have hz:=u.frozen 0;exact⟨left12 (upd f 9 true),zap f 9 (by omega) a,zj6 (w':=w'.setCell ⟨b 0,0,none⟩ (.slice (some ⟨r 0,0,none⟩) ns.length ns.length)) rfl rfl (by simp[execOp,go_sem,hc,hz]) ⟨upd f 9 true,r,b,x17,(.slice (some ⟨r 0,0,none⟩) ns.length ns.length),x19,x20,x21,x22,(.pointer (some ⟨b 0,0,none⟩)),p6,p7,rfl,rfl,hid (d.out.fill 0 (by omega) K),p,F,D,fun _=>⟨d2,K⟩,G,I,C,s1,E,J,B,s2,rfl⟩⟩
   .have a:f 10=false:=by simpa using q
    obtain rfl:=Option.some.inj (show some _=some o from M);have K:f 7=true:=by simpa using Y ⟨7,.data⟩ (by simp) rfl
    have d2:f 3=true:=by simpa using Y ⟨3,.data⟩ (by simp) rfl
    have Q:=I d2;subst Q;have hp:=C K;subst hp;have u:=(d.out.box 1 (by omega) K).2;have hc:w'.cell? ⟨b 1,0,none⟩=some (.slice none 0 0):=by rw[u.cell 0];simp[a]
    have hz:=u.frozen 0;exact⟨left12 (upd f 10 true),zap f 10 (by omega) a,zj6 (w':=w'.setCell ⟨b 1,0,none⟩ (.slice (some ⟨r 1,0,none⟩) ns.length ns.length)) rfl rfl (by simp[execOp,go_sem,hc,hz]) ⟨upd f 10 true,r,b,x17,x18,x19,(.slice (some ⟨r 1,0,none⟩) ns.length ns.length),x21,x22,p5,(.pointer (some ⟨b 1,0,none⟩)),p7,rfl,rfl,hid (d.out.fill 1 (by omega) K),p,F,D,s0,G,I,C,fun _=>⟨d2,K⟩,E,J,B,s2,rfl⟩⟩
   .have a:f 11=false:=by simpa using q
    obtain rfl:=Option.some.inj (show some _=some o from M);have K:f 8=true:=by simpa using Y ⟨8,.data⟩ (by simp) rfl
    have d2:f 5=true:=by simpa using Y ⟨5,.data⟩ (by simp) rfl
    have Q:=J d2;subst Q;have hp:=B K;subst hp;have u:=(d.out.box 2 (by omega) K).2;have hc:w'.cell? ⟨b 2,0,none⟩=some (.slice none 0 0):=by rw[u.cell 0];simp[a]
    have hz:=u.frozen 0;exact⟨left12 (upd f 11 true),zap f 11 (by omega) a,zj6 (w':=w'.setCell ⟨b 2,0,none⟩ (.slice (some ⟨r 2,0,none⟩) ns.length ns.length)) rfl rfl (by simp[execOp,go_sem,hc,hz]) ⟨upd f 11 true,r,b,x17,x18,x19,x20,x21,(.slice (some ⟨r 2,0,none⟩) ns.length ns.length),p5,p6,(.pointer (some ⟨b 2,0,none⟩)),rfl,rfl,hid (d.out.fill 2 (by omega) K),p,F,D,s0,G,I,C,s1,E,J,B,fun _=>⟨d2,K⟩,rfl⟩⟩
  case fin=>
   rintro m t a' w' ⟨f,r,b,x17,x18,x19,x20,x21,x22,p5,p6,p7,rfl,rfl,d,p,F,D,s0,G,I,C,s1,E,J,B,s2,rfl⟩ hr;have L:=fun i=>mt mem_ready.2 (X5.1 hr i)
   have t0:f 0=true:=by
    cases e:f 0 with
    |true=>rfl
    |false=>exact(L 0 ⟨by simpa using e,_,rfl,by simp[Region.binds, *]⟩).elim
   have t2:f 2=true:=by
    cases e:f 2 with
    |true=>rfl
    |false=>exact(L 2 ⟨by simpa using e,_,rfl,by simp[Region.binds, *]⟩).elim
   have t4:f 4=true:=by
    cases e:f 4 with
    |true=>rfl
    |false=>exact(L 4 ⟨by simpa using e,_,rfl,by simp[Region.binds, *]⟩).elim
   have t6:f 6=true:=by
    cases e:f 6 with
    |true=>rfl
    |false=>exact(L 6 ⟨by simpa using e,_,rfl,by simp[Region.binds, *]⟩).elim
   have t7:f 7=true:=by
    cases e:f 7 with
    |true=>rfl
    |false=>exact(L 7 ⟨by simpa using e,_,rfl,by simp[Region.binds, *]⟩).elim
   have t8:f 8=true:=by
    cases e:f 8 with
    |true=>rfl
    |false=>exact(L 8 ⟨by simpa using e,_,rfl,by simp[Region.binds, *]⟩).elim
   have t1:f 1=true:=by
    cases e:f 1 with
    |true=>rfl
    |false=>exact(L 1 ⟨by simpa using e,_,rfl,by simp[Region.binds, *]⟩).elim
   have t3:f 3=true:=by
    cases e:f 3 with
    |true=>rfl
    |false=>exact(L 3 ⟨by simpa using e,_,rfl,by simp[Region.binds, *]⟩).elim
   have t5:f 5=true:=by
    cases e:f 5 with
    |true=>rfl
    |false=>exact(L 5 ⟨by simpa using e,_,rfl,by simp[Region.binds, *]⟩).elim
   have t9:f 9=true:=by
    cases e:f 9 with
    |true=>rfl
    |false=>exact(L 9 ⟨by simpa using e,_,rfl,by simp[Region.binds, *]⟩).elim
   have az:f 10=true:=by
    cases e:f 10 with
    |true=>rfl
    |false=>exact(L 10 ⟨by simpa using e,_,rfl,by simp[Region.binds, *]⟩).elim
   have am:f 11=true:=by
    cases e:f 11 with
    |true=>rfl
    |false=>exact(L 11 ⟨by simpa using e,_,rfl,by simp[Region.binds, *]⟩).elim
   have hf:f=fun k=>f k:=rfl
   have l:∀k,k<12->f k=true:=by
    intro k hk;obtain rfl|rfl|rfl|rfl|rfl|rfl|rfl|rfl|rfl|rfl|rfl|rfl:k=0\/k=1\/k=2\/k=3\/k=4\/k=5\/k=6\/k=7\/k=8\/k=9\/k=10\/k=11:=by omega
    all_goals assumption
   have hM:Mk3 ns.length w1 w' (fun _=>true) r b:=⟨d.out.below,fun j hj _=>d.out.row j hj (l _ (by omega)),fun j hj _=>by
    have:=d.out.box j hj (l _ (by omega));rw[l (9+j) (by omega)]at this;exact this,fun j k hj hk ae _ _=>d.out.rr j k hj hk ae (l _ (by omega)) (l _ (by omega)),fun j k hj hk ae _ _=>d.out.bb j k hj hk ae (l _ (by omega)) (l _ (by omega))⟩
   have au:=D t6;have al:=C t7;have aB:=B t8;subst au;subst al;subst aB;have ay:=hid hM;clear hM l hf L hr d p F D s0 G I C s1 E J B s2 t0 t1 t2 t3 t4 t5 t6 t7 t8 t9 az am;go_wp2;go_meet;exact⟨r,b,rfl,rfl,rfl,ay⟩
 case rest=>
  obtain⟨r,b,rfl,rfl,rfl,d⟩:=hcut;obtain⟨p,V⟩:∃p:Nat->List Int,(fun k=>K1 k (-1:Int)++K1 (ns.length-k) 0)=p:=⟨_,rfl⟩
  have ax:Hid (∀k,k<ns.length->(p k).set k (-1)=p (k+1)/\(p k).length=ns.length/\(p k).getD k (-1)=0):=hid (fun k hk=>by
   rw[<-V];refine⟨?_,by simp;omega,?_⟩
   .simp only;rw[List.set_append_right _ _ (by simp),U9,W2,show ns.length-k=(ns.length-(k+1))+1 from by omega,List.replicate_succ,V5,List.replicate_succ',List.append_assoc];rfl
   .simp only;rw[U3,List.getElem?_append_right (by simp),U9,W2,List.getElem?_replicate,if_pos (by omega)];rfl)
  have ap:Hid (icells (K1 ns.length 0)=jcells (p 0)):=hid (by rw[<-V];simp[icells,jcells]);have av:Hid (p ns.length=K1 ns.length (-1)):=hid (by rw[<-V];simp);clear V;obtain⟨s,P⟩:=ex (r 2)
  obtain⟨U,S⟩:=ex (b 2)
  have O:Hid (Blk wc U 35 #[.slice (some ⟨s,0,none⟩) ns.length ns.length]/\Blk wc s 3 (jcells (p 0))):=hid (by
   have h1:=(d.out.box 2 (by omega) rfl).2;have h2:=(d.out.row 2 (by omega) rfl).2;rw[ap.out]at h2;subst P;subst S;exact⟨by simpa using h1,h2⟩)
  have ar:=hid (And.intro P S);(try rw[S]);clear P S;have c0:wc.cell? ⟨U,0,none⟩=some (.slice (some ⟨s,0,none⟩) ns.length ns.length):=O.out.1.cell 0;have ag:U≠s:=O.out.1.ne_ O.out.2 (by decide);go_upto_region 4 with fail;clear c0;go_loopw [25] (fun s25 wr=>∃k:Nat,k<=ns.length/\s25=.int .i64 k/\Hid (KB s wc wr/\Blk wr s 3 (jcells (p k)))) (fun s25 _=>ns.length-(intOf s25).toNat)
  case atStart=>exact⟨0,by omega,rfl,hid ⟨KB.refl _ _,O.out.2⟩⟩
  case round=>
   obtain⟨k,hk,rfl,HW⟩:=hrel;by_cases hlk:k<ns.length
   .have ai:(k:Int)<(ns.length:Int):=by omega
    have c0:wr.cell? ⟨U,0,none⟩=some (.slice (some ⟨s,0,none⟩) ns.length ns.length):=(HW.out.1.blk O.out.1 ag).cell 0;obtain⟨e1,e2,e3⟩:=ax.out k hlk;have z0:wr.cell? ⟨s,k,none⟩=some (.int .i64 0):=by rw[HW.out.2.cell,zb6 (by omega),e3]
    have zf:∀i,wr.frozen? ⟨s,i,none⟩=false:=HW.out.2.frozen;have aq:Hid (KB s wc (wr.setCell ⟨s,k,none⟩ (.int .i64 (-1)))/\Blk (wr.setCell ⟨s,k,none⟩ (.int .i64 (-1))) s 3 (jcells (p (k+1)))):=hid ⟨HW.out.1.set _ _,by
     rw[<-e1,<-zgi];exact HW.out.2.set_ k _⟩
    clear e1 e2 e3 HW;go_wp2;go_roundw
    case rel=>exact⟨k+1,by omega,by go_num,aq⟩
    case measure=>simp[intOf];omega
   .have ai:¬((k:Int)<(ns.length:Int)):=by omega
    have aj:Hid (KB s wc wr/\Blk wr s 3 (jcells (K1 ns.length (-1)))):=hid (by
     have:=HW.out;rw[show k=ns.length from by omega,av.out]at this;exact this)
    clear HW;go_upto_region 13 with fail;have N:=ao.out;have hw1s:w1.heap.size=X+1:=by rw[<-aa.out,<-N];simp
    have l1:Below w.heap.size w w1:=by rw[<-aa.out];exact(K2 _ _).alloc (K3 _) _
    have ak:Blk w1 X 24 #[.slice A ns.length c,.int .i64 root]:=by rw[<-aa.out,<-N];exact Q5 _ _ _
    obtain⟨P,S⟩:=ar.out;obtain⟨x0,y0⟩:=d.out.row 0 (by omega) rfl;obtain⟨x1,y1⟩:=d.out.row 1 (by omega) rfl;obtain⟨x2,y2⟩:=d.out.row 2 (by omega) rfl;obtain⟨_,z0⟩:=d.out.box 0 (by omega) rfl;obtain⟨_,z1⟩:=d.out.box 1 (by omega) rfl;have aw:=d.out.rr 0 1 (by omega) (by omega) (by omega) rfl rfl;have ad:=d.out.rr 0 2 (by omega) (by omega) (by omega) rfl rfl;have ab:=d.out.rr 1 2 (by omega) (by omega) (by omega) rfl rfl;rw[P]at x2 y2 ad ab;have ah:=ak.below d.out.below (by omega);have x:=aj.out.1;have Z:Below w.heap.size w wr:=(l1.trans (d.out.below.mono (by omega))).trans (x.below (by omega) (by have:=l1.size;have:=d.out.below.size;omega));have an:=Z.size;obtain⟨z,hz⟩:=ex wr.heap.size
    rw[hz];obtain⟨W,hW⟩:=ex ((((((wr.alloc (.cells #[.slice none 0 0] 35)).alloc (.cells #[.slice none 0 0] 35)).alloc (.cells (bcells (K1 ns.length false)) 4)).alloc (.cells #[.slice (some ⟨z+1+1,0,none⟩) ns.length ns.length] 44)).alloc (.cells #[.int .i64 0] 3)).alloc (.cells #[(compL z X (b 0) (b 1) U (r 0) (r 1) s).fn] 70))
    obtain⟨hT,lW,hWs⟩:=zmm w.heap.size z X (b 0) (b 1) U (r 0) (r 1) s A c root vs ns wr W hz hW
     (x.blk (by simpa using z0) (z0.ne_ y2 (by decide))) (x.blk (by simpa using z1) (z1.ne_ y2 (by decide))) (x.blk O.out.1 ag) (x.blk y0 ad) (x.blk y1 ab) aj.out.2
     (x.blk ah (by omega)) aw ad ab (by omega) (by omega) (by omega) (by omega) (H.out.below Z)
    unfold compL TL.fn at hW;simp only at hW;rw[hW];have HT:=hid hT;have aC:=hid (Z.trans (lW.mono an));have v0:W.cell? ⟨z+1+1+1+1+1,0,none⟩=some (compL z X (b 0) (b 1) U (r 0) (r 1) s).fn:=hT.xV.cell 0;unfold compL TL.fn at v0;simp only at v0;have g1:W.cell? ⟨X,1,none⟩=some (.int .i64 root):=hT.xG.cell 1;have hC:=zml (y:=compL z X (b 0) (b 1) U (r 0) (r 1) s) hr hl hks ns.length (tzero ns.length) root (fun _=>False) W _ _ hT (zic _) hroot (zcv _ _) (fun g h=>h.elim) (K7 List.countP_le_length (by simp));unfold TL.args compL at hC;simp only at hC;have HC:=hid hC;have HX:Hid (w.heap.size<=s/\w.heap.size<=z+1+1+1+1+1+1):=hid ⟨by omega,by omega⟩;clear hW hT hC l1 ak y0 y1 y2 z0 z1 ah x Z lW;go_wp2_with fail;refine HC.out.mono ?_;rintro e w9 ⟨rfl,sv,zv,h9,f9⟩;obtain⟨Az,cz,aA,_⟩:=h9.siz.form;subst aA;have C:w9.cell? ⟨U,0,none⟩=some (.slice (some ⟨s,0,none⟩) ns.length ns.length):=h9.xC.cell 0;have B:w9.cell? ⟨z,0,none⟩=some (.slice Az (tvisit (K0 ns) ns.length (tzero ns.length) root).sizes.length cz):=h9.bZ.cell 0;have R:Hid (Below w.heap.size w w9/\Blk w9 s 3 (jcells (tcomp (K0 ns) ns.length root).inn)/\OwnRow intL w9 w.heap.size 3 (.slice Az (tcomp (K0 ns) ns.length root).sizes.length cz) (tcomp (K0 ns) ns.length root).sizes):=
     hid ⟨aC.out.trans (HT.out.tfBelow f9),h9.rC,h9.siz.lower HX.out.2⟩
    clear v0 g1 h9 f9;go_upto_region 14 with fail;go_quiet (fail);go_wp2_with fail;refine W6 (v:=.tuple #[.slice (some ⟨s,0,none⟩) ns.length ns.length,.slice Az (tvisit (K0 ns) ns.length (tzero ns.length) root).sizes.length cz]) (by simp[results,results47,go_sem]) rfl ?_;exact⟨s,Az,cz,rfl,HX.out.1,below_drewN R.out.1 _,R.out.2.1.drewN _,R.out.2.2.drewN _⟩
theorem infoSl:(prog.info? 35).map (fun i=>(i.zero,i.size,i.bytes))=some (some (.slice none 0 0),1,24):=by kernel_rfl
theorem zj7 (n:Nat) (hn:n<=1073741824) (W:World):(Instr.makeSlice 48 (.int .i64 (n:Int)) (.int .i64 (n:Int))).run prog W=.ok (.slice (some ⟨W.heap.size,0,none⟩) n n) (W.alloc (.cells (K1 n (Value.slice none 0 0)).toArray 35)):=by
 obtain⟨e,b,c,d,a⟩:=info_parts infoSl;have:=zbm (P:=prog) 48 35 e _ underlying48 b c .i64 .i64 n n (K3 _) (by rw[a];omega) (by omega) W;rw[d]at this;simp only[Value.cells,zbn]at this;exact this
structure Mems (w:World) (D rM:Nat) (mv:List Value) (ml:List (List Nat)):Prop where
 blk:Blk w rM 35 mv.toArray
 lo:rM<D
 hd:D<=w.heap.size
 len:mv.length=ml.length
 own:∀c (h1:c<mv.length) (h2:c<ml.length),OwnRow intL w D 3 mv[c] ml[c]
 ap:∀c c' (h1:c<mv.length) (h2:c'<mv.length),c≠c'->∀k,mv[c].ownBlock=some k->mv[c'].ownBlock≠some k
section
variable {w w' w2:World} {D rM:Nat} {mv:List Value} {ml:List (List Nat)}
theorem Mems.start {m:Nat} (hb:Blk w rM 35 (K1 m (Value.slice none 0 0)).toArray) (lo:rM<D) (hd:D<=w.heap.size):Mems w D rM (K1 m (.slice none 0 0)) (K1 m []):=
 ⟨hb,lo,hd,by simp,fun c a b=>by simp only[U6];exact Y7,fun c c' a b _ k e=>by simp only[U6]at e;cases e⟩
theorem Mems.later (h:Mems w D rM mv ml) (hb:Below w.heap.size w w'):Mems w' D rM mv ml:=
 ⟨h.blk.below hb h.blk.lt,h.lo,K7 h.hd hb.size,h.len,fun c a b=>(h.own c a b).later hb,h.ap⟩
theorem Mems.alloc (h:Mems w D rM mv ml) (o:Obj):Mems (w.alloc o) D rM mv ml:=h.later ((K2 _ _).alloc (K3 _) o)
theorem Mems.kb {g:Nat} (h:Mems w D rM mv ml) (hk:KB g w w') (hg:g<D) (hne:g≠rM):Mems w' D rM mv ml:=by
 refine⟨hk.blk h.blk (Ne.symm hne),h.lo,K7 h.hd hk.size,h.len,fun c l n=>?_,h.ap⟩;have j:=h.own c l n;have f:=j.lt;refine⟨j.1,j.2.imp id ?_⟩;rintro⟨a,b,d,k,i,m,r⟩;have e:mv[c].ownBlock=some a:=by rw[k];rfl
 have:=f a e;exact⟨a,b,d,k,i,(hk.block a (by omega) (by omega)).trans m,r⟩
theorem Mems.grown (h:Mems w D rM mv ml) {c:Nat} (hc:c<mv.length) {v2:Value} {l:List Nat} (ho:OwnRow intL w2 D 3 v2 l) (hg:w.grownBy w2 (mv[c]).ownBlock) (hat:v2.ownBlock=(mv[c]).ownBlock\/v2.ownBlock=some w.heap.size):
 Mems (w2.setCell ⟨rM,c,none⟩ v2) D rM (mv.set c v2) (ml.set c l):=by
 have g:c<ml.length:=by rw[<-h.len];exact hc
 have i:=h.lo;have hsz:=hg.size;have j:Blk w2 rM 35 mv.toArray:=h.blk.grown hg (fun e=>by have:=((h.own c hc g).lt rM e.symm).1;omega);have hap:∀c' (h1:c'<mv.length),c'≠c->∀k,v2.ownBlock=some k->mv[c'].ownBlock≠some k:=by
  intro c' h1 a k e d;rcases hat with h3|h3
  .exact h.ap c' c h1 hc a k d (h3.symm.trans e)
  .have:=((h.own c' h1 (by rw[<-h.len];exact h1)).lt k d).2;rw[h3]at e;injection e with e;omega
 refine⟨?_,i,?_,by simp[h.len],?_,?_⟩
 .have:=j.set_ c v2;simpa using this
 .have:=h.hd;simp[K9];omega
 .intro c' h1 b;simp only[Z3]at h1 b;by_cases hcc:c'=c
  .subst hcc;simp only[List.getElem_set_self];exact ho.setCell (p:=⟨rM,c',none⟩) (fun e=>by have:=(ho.lt _ e).1;simp only at this;omega) _
  .simp only[Y3 (Ne.symm hcc)];have h3:=h.own c' h1 b;have f:=h3.off hg (fun k e d=>h.ap c' c h1 hc hcc k e d.symm);exact f.setCell (p:=⟨rM,c,none⟩) (fun e=>by have:=(h3.lt _ e).1;simp only at this;omega) _
 .intro n m h1 b a k e;simp only[Z3]at h1 b;by_cases h3:n=c
  .grind
  .simp only[Y3 (Ne.symm h3)]at e;by_cases f:m=c
   .grind
   .simp only[Y3 (Ne.symm f)];exact h.ap n m h1 b a k e
theorem Mems.grownKB {w4:World} (h:Mems w D rM mv ml) (hk:KB rM w4 w) (hD:w4.heap.size=D) {c:Nat} (hc:c<mv.length) (v2:Value) (hg:w.grownBy w2 (mv[c]).ownBlock):
 KB rM w4 (w2.setCell ⟨rM,c,none⟩ v2):=by
 have b:c<ml.length:=by rw[<-h.len];exact hc
 have a:Below D w w2:=(h.own c hc b).grown_below hg h.hd;refine KB.set ⟨a.os.trans hk.os,a.tape.trans hk.tape,a.output.trans hk.output,K7 hk.size a.size,fun k d e=>(a.block k (by omega)).trans (hk.block k d e)⟩ _ _
theorem Mems.at_ (h:Mems w D rM mv ml) {c:Nat} (hc:c<ml.length):∃A cap,mv[c]? =some (.slice A (ml[c]).length cap)/\w.cell? ⟨rM,c,none⟩=some (.slice A (ml[c]).length cap)/\RowAt intL w w.heap.size A ml[c]:=by
 have a:c<mv.length:=by rw[h.len];exact hc
 obtain⟨A,cap,b,d⟩:=(h.own c a hc).form;refine⟨A,cap,by rw[Q2 a,b],?_,d⟩;rw[h.blk.cell];simp[Q2 a,b]
theorem Mems.row (h:Mems w D rM mv ml) {c:Nat} (hc:c<ml.length) {A:Option Addr} {n cap:Nat} (e:mv[c]? =some (.slice A n cap)):RowAt intL w w.heap.size A ml[c]:=by
 obtain⟨A',cap',a,_,b⟩:=h.at_ hc;rw[a]at e;injection e with e
 injection e with e _ _
 subst e;exact b
end
theorem zih (inn:Nat->Int) (i c:Nat):members inn (i+1) c=if inn i=(c:Int)then members inn i c++[i]else members inn i c:=by
 unfold members;rw[Z2,List.filter_append];by_cases h:inn i=(c:Int)<;>simp[h]
def memsL (inn:Nat->Int) (i m:Nat):List (List Nat):=(W3 m).map (fun c=>members inn i c)
theorem zcj (inn:Nat->Int) (i m:Nat):(memsL inn i m).length=m:=by simp[memsL]
theorem zmo (inn:Nat->Int) (m:Nat):memsL inn 0 m=K1 m []:=by
 unfold memsL;apply Z0
 .simp
 .intro i h1 h2;simp[members]
theorem zck (inn:Nat->Int) (i m c:Nat) (h:c<(memsL inn i m).length):(memsL inn i m)[c]=members inn i c:=by simp[memsL]
theorem zmp (inn:Nat->Int) (i m c:Nat) (h:inn i=(c:Int)):memsL inn (i+1) m=(memsL inn i m).set c (members inn i c++[i]):=by
 apply Z0
 .simp[memsL]
 .intro k h1 h2;rw[zck,zih];by_cases hk:k=c
  .grind
  .rw[Y3 (Ne.symm hk),if_neg (by omega),zck]
theorem ze7 (inn:Nat->Int) (i c:Nat):(members inn i c).length<=i:=by
 unfold members;exact K7 (List.length_filter_le _ _) (by simp)
theorem zmq (inn:Nat->Int) (n c:Nat):∀x∈members inn n c,x<n:=by
 intro x a;unfold members at a;exact List.mem_range.1 (List.mem_filter.1 a).1
def Sml (M:Nat) (p:List Nat×Bool):Prop:=∀k,p.1.getD k 0<=M
theorem Sml.step {M:Nat} {inn:Nat->Int} {c:Nat} {p:List Nat×Bool} (h:Sml M p) (x:Nat):Sml M (dstep inn c p x):=by
 unfold dstep;split
 .exact h
 .intro k;show(p.1.set c _).getD k 0<=M;by_cases hk:c=k
  .subst hk;by_cases hl:c<p.1.length
   .rw[za6 _ _ _ _ hl];have:=h c;have:=h (inn x).toNat;omega
   .grind
  .rw[Gr.getD_set_ne _ _ _ _ _ hk];exact h k
theorem Sml.fold {M:Nat} {inn:Nat->Int} {c:Nat} (L:List Nat):∀{p:List Nat×Bool},Sml M p->Sml M (L.foldl (dstep inn c) p):=by
 induction L with
 |nil=>intro p h;exact h
 |cons x L ih=>intro p h;rw[Y2];exact ih (h.step x)
theorem Sml.foldM {M:Nat} {inn:Nat->Int} {c:Nat} (sc:Nat->List Nat) (L:List Nat):∀{p:List Nat×Bool},Sml M p->Sml M (L.foldl (fun p i=>(sc i).foldl (dstep inn c) p) p):=by
 induction L with
 |nil=>intro p h;exact h
 |cons x L ih=>intro p h;rw[Y2];exact ih (h.fold _)
theorem zo0 (inn:Nat->Int) (c:Nat) (p:List Nat×Bool) (x:Nat):(dstep inn c p x).1.length=p.1.length:=by
 unfold dstep;split<;>simp
theorem ze8 (inn:Nat->Int) (c:Nat) (L:List Nat):∀p:List Nat×Bool,(L.foldl (dstep inn c) p).1.length=p.1.length:=by
 induction L with
 |nil=>intro p;rfl
 |cons x L ih=>intro p;rw[Y2,ih,zo0]
theorem zd0 (inn:Nat->Int) (c:Nat) (sc:Nat->List Nat) (L:List Nat):∀p:List Nat×Bool,(L.foldl (fun p i=>(sc i).foldl (dstep inn c) p) p).1.length=p.1.length:=by
 induction L with
 |nil=>intro p;rfl
 |cons x L ih=>intro p;rw[Y2,ih,ze8]
theorem zo1 (sc:Nat->List Nat) (inn:Nat->Int) (n:Nat) (sizes:List Nat) (p:List Nat×Bool) (c:Nat):(dcomp sc inn n sizes p c).1.length=p.1.length:=by
 unfold dcomp;simp[zd0]
theorem zgj (sc:Nat->List Nat) (inn:Nat->Int) (n:Nat) (sizes:List Nat) (L:List Nat):∀p:List Nat×Bool,(L.foldl (dcomp sc inn n sizes) p).1.length=p.1.length:=by
 induction L with
 |nil=>intro p;rfl
 |cons x L ih=>intro p;rw[Y2,ih,zo1]
theorem Sml.comp {M N:Nat} {sc:Nat->List Nat} {inn:Nat->Int} {n:Nat} {sizes:List Nat} {p:List Nat×Bool} (h:Sml M p) (c:Nat) (hN:∀k,sizes.getD k 0<=N):Sml (M+N) (dcomp sc inn n sizes p c):=by
 unfold dcomp;have a:=h.foldM (inn:=inn) (c:=c) sc (members inn n c);obtain⟨q,b⟩:=ex ((members inn n c).foldl (fun p i=>(sc i).foldl (dstep inn c) p) p)
 rw[b]at a;rw[b];intro k;show(q.1.set c _).getD k 0<=_;have:=a k;by_cases hk:c=k
 .grind
 .grind
theorem Sml.comps {N:Nat} {sc:Nat->List Nat} {inn:Nat->Int} {n:Nat} {sizes:List Nat} {p:List Nat×Bool} (h:Sml 0 p) (hN:∀k,sizes.getD k 0<=N) (k:Nat):Sml (k*N) ((W3 k).foldl (dcomp sc inn n sizes) p):=by
 induction k with
 |zero=>simpa using h
 |succ k ih=>
  rw[Z2,X2,X8,Nat.one_mul];exact ih.comp k hN
theorem zel (n:Q0) (hl:n.length<=1073741823) (w:World):
 Calls prog 41 #[.string ⟨n.toArray⟩] w fun e w'=>e=.returned (.bool (Gr.intB n))/\Below w.heap.size w w':=by
 have d:=Q9 (fun W=>zkc n hl W);obtain⟨r,a⟩:=ex (Gr.intB n)
 rw[a]at d ⊢;clear a;go_enter func41,ntmps41;go_wp2_with fail;refine(d.out _).mono ?_;rintro e w2 ⟨b,A,m,c,rfl,g⟩;have f:=Q9 g;clear g;go_wp2;go_ret;exact⟨rfl,f.out.alloc f.out.size _⟩
theorem znr (x:V6) (A:Option Addr) (c:Nat) (hl:x.d.length<=1073741823) (w:World):
 Calls prog 120 #[.agg #[.bool x.neg,.slice A x.d.length c,.int .i64 x.e]] w fun e w'=>e=.returned (.int .i64 (lim x:Nat))/\Below w.heap.size w w':=by
 obtain⟨neg,d,e⟩:=x;simp only at hl ⊢;have g:Below w.heap.size w (w.alloc (.cells #[.bool neg,.slice A d.length c,.int .i64 e] 133)):=(K2 _ _).alloc (K3 _) _;have b:=hid g;clear g;by_cases h1:400<d.length
 .have a:Hid (lim ⟨neg,d,e⟩=6):=hid (by unfold lim;rw[if_pos h1]);have f:(400:Int)<(d.length:Int):=by omega
  go_enter func120,ntmps120;go_wp2;go_ret;rw[a.out];exact⟨rfl,b.out⟩
 .have f:¬(400:Int)<(d.length:Int):=by omega
  by_cases h2:2000<e
  .have a:Hid (lim ⟨neg,d,e⟩=2):=hid (by unfold lim;rw[if_neg h1,if_pos (.inr h2)]);go_enter func120,ntmps120;go_wp2;go_ret;rw[a.out];exact⟨rfl,b.out⟩
  .by_cases h3:e< -2000
   .have a:Hid (lim ⟨neg,d,e⟩=2):=hid (by unfold lim;rw[if_neg h1,if_pos (.inl h3)]);go_enter func120,ntmps120;go_wp2;go_ret;rw[a.out];exact⟨rfl,b.out⟩
   .have a:Hid (lim ⟨neg,d,e⟩=0):=hid (by unfold lim;rw[if_neg h1,if_neg (fun h=>h.elim h3 h2)]);go_enter func120,ntmps120;go_wp2;go_ret;rw[a.out];exact⟨rfl,b.out⟩
theorem zrj (neg:Bool) (A:Option Addr) (n c:Nat) (e:Int) (w:World):
 Calls prog 179 #[.agg #[.bool neg,.slice A n c,.int .i64 e]] w fun e' w'=>e'=.returned (.string ⟨(signS neg).toArray⟩)/\Below w.heap.size w w':=by
 have a:Below w.heap.size w (w.alloc (.cells #[.bool neg,.slice A n c,.int .i64 e] 133)):=(K2 _ _).alloc (K3 _) _;have b:=hid a;clear a;cases neg
 all_goals
  go_enter func179,ntmps179;go_wp2;go_ret;exact⟨rfl,b.out⟩
theorem zum (A:Option Addr) (d:List Nat) (c:Nat) (hl:d.length<=1073741823) (hd:∀v∈d,v<10) (w:World) (h:RowAt intL w w.heap.size A d):
 Calls prog 180 #[.slice A d.length c] w fun e' w'=>e'=.returned (.string ⟨(d.map Y5).toArray⟩)/\Below w.heap.size w w':=by
 have B:=hid hd;have m:=hid h;clear hd h;go_enter func180,ntmps180;go_wp2_with fail;go_loopw [3,4] (fun s3 s4 wr=>∃k:Nat,k<=d.length/\s3=.string ⟨((d.take k).map Y5).toArray⟩/\s4=.int .i64 k/\Hid (Below w.heap.size w wr)) (fun _ s4 _=>d.length-(intOf s4).toNat)
 case atStart=>exact⟨0,by omega,rfl,rfl,hid (K2 _ _)⟩
 case round=>
  obtain⟨k,hk,rfl,rfl,n⟩:=hrel;by_cases hlt:k<d.length
  .have i:(k:Int)<(d.length:Int):=by omega
   obtain⟨v,o⟩:=ex (d[k])
   have f:v<10:=by rw[<-o];exact B.out _ (Q4 hlt)
   obtain⟨ad,rfl,_,y⟩:=zaf (m.out.below n.out) hlt;rw[o]at y;have s:=hid (fun W=>zdh v (by omega) W);rw[Lib.decDigits_one f,show[UInt8.ofNat (48+v)]=[Y5 v]from rfl]at s;have j:((d.take k).map Y5).length=k:=by simp;omega
   have b:=fun W=>zad ((d.take k).map Y5) [Y5 v] (by rw[j];simp;omega) W
   have a:Hid ((d.take (k+1)).map Y5=(d.take k).map Y5++[Y5 v]):=hid (by
    rw[K4 hlt,List.map_append,o];rfl)
   obtain⟨r,t⟩:=ex ((d.take k).map Y5)
   obtain⟨r2,g⟩:=ex ((d.take (k+1)).map Y5)
   obtain⟨x,u⟩:∃x:Q0,[Y5 v]=x:=⟨_,rfl⟩
   rw[t]at b a ⊢;rw[g]at a;rw[u]at b a s;have p:=hid g;clear o f j t g u;go_wp2_with fail;refine(s.out _).mono ?_;rintro e z ⟨rfl,l⟩;have q:Hid (Below w.heap.size w z):=hid (n.out.trans (l.mono n.out.size));clear l;go_wp2;go_roundw
   case rel=>exact⟨k+1,by omega,by rw[p.out,a.out],by go_num,q⟩
   case measure=>simp[intOf];omega
  .have i:¬(k:Int)<(d.length:Int):=by omega
   have C:Hid ((d.map Y5).take k=d.map Y5):=hid (Q8 (by simp;omega));go_wp2;go_ret;rw[C.out];exact⟨rfl,n.out⟩
theorem zrk (x:V6) (A:Option Addr) (c:Nat) (hl:x.d.length<=1073741823) (hd:∀v∈x.d,v<10) (w:World) (h:RowAt intL w w.heap.size A x.d):
 Calls prog 153 #[.agg #[.bool x.neg,.slice A x.d.length c,.int .i64 x.e]] w fun e' w'=>e'=.returned (.string ⟨(coef x).toArray⟩)/\Below w.heap.size w w':=by
 obtain⟨neg,d,E⟩:=x;simp only at hl hd h ⊢;have i:=hid h;have B:=hid hd;clear h hd;obtain⟨r,l⟩:=ex (coef ⟨neg,d,E⟩)
 have u:=hid l;rw[l];clear l;go_enter func153,ntmps153;go_upto_region 1 with fail;obtain⟨b,j⟩:=ex (w.alloc (.cells #[.bool neg,.slice A d.length c,.int .i64 E] 133))
 obtain⟨f,g⟩:=ex w.heap.size
 have a:Hid (Blk b f 133 #[.bool neg,.slice A d.length c,.int .i64 E]/\Below f w b/\b.heap.size=f+1):=hid (by rw[<-j,<-g];exact⟨Q5 _ _ _,(K2 _ _).alloc (K3 _) _,by simp⟩);have k:=hid g;rw[g]at i;(try rw[j]);(try rw[g]);clear j g;have z:b.cell? ⟨f,1,none⟩=some (.slice A d.length c):=a.out.1.cell 1;by_cases h0:d=[]
 .subst h0;have o:Hid (r=[48]):=hid (by rw[<-u.out];rfl);go_wp2;go_ret;rw[o.out,k.out];exact⟨rfl,a.out.2.1⟩
 .have hlp:=V3.2 h0;have h1:¬((d.length:Int)=0):=by omega
  have h1b:((d.length:Int)==0)=false:=by simpa using h0
  have o:Hid (r=signS neg++d.map Y5):=hid (by rw[<-u.out];unfold coef;rw[if_neg h0];rfl);go_upto_region 3 with fail;clear z;have m:b.heap.size=f+1:=a.out.2.2;have t:Hid (∀W:WB b.heap.size b,Calls prog 179 #[.agg #[.bool neg,.slice A d.length c,.int .i64 E]] W.w (fun e n=>e=.returned (.string ⟨(signS neg).toArray⟩)/\Below b.heap.size b n)/\Calls prog 180 #[.slice A d.length c] W.w (fun e n=>e=.returned (.string ⟨(d.map Y5).toArray⟩)/\Below b.heap.size b n)):=hid (fun W=>⟨(zrj neg A d.length c E W.w).mono (fun _ _ ⟨q,s⟩=>⟨q,W.h.trans (s.mono W.h.size)⟩),(zum A d c hl B.out W.w (((i.out.below a.out.2.1).below (W.h.mono (by omega))).more (by have:=W.h.size;omega))).mono (fun _ _ ⟨q,s⟩=>⟨q,W.h.trans (s.mono W.h.size)⟩)⟩);have p0:∀W:WB b.heap.size b,W.w.cell? ⟨f,0,none⟩=some (.bool neg):=fun W=>(W.h.cell (p:=⟨f,0,none⟩) (by simp;omega)).trans (a.out.1.cell 0)
  have p1:∀W:WB b.heap.size b,W.w.cell? ⟨f,1,none⟩=some (.slice A d.length c):=fun W=>(W.h.cell (p:=⟨f,1,none⟩) (by simp;omega)).trans (a.out.1.cell 1)
  have p2:∀W:WB b.heap.size b,W.w.cell? ⟨f,2,none⟩=some (.int .i64 E):=fun W=>(W.h.cell (p:=⟨f,2,none⟩) (by simp;omega)).trans (a.out.1.cell 2)
  clear m;have hadd:=fun W=>zad (signS neg) (d.map Y5) (by have:=zdq neg;rw[Z5];omega) W
  refine zac b.heap.size b (by kernel_rfl) (by kernel_rfl) (K2 _ _) ?_
  repeat (go_big_quiet_step ((first| (with_reducible refine Y9 (t.out _).1)| (with_reducible refine Y9 (t.out _).2))))
  refine wpQuiet_nil ?_;rintro _ ⟨y,rfl⟩;go_wp2;go_ret;rw[o.out,k.out];exact⟨rfl,a.out.2.1.trans (y.h.mono (by have:=a.out.2.2;omega))⟩
theorem zrl (x:V6) (A:Option Addr) (c:Nat) (hl:x.d.length<=1073741823) (hd:∀v∈x.d,v<10) (h0:-4611686018427387904<=x.e) (h1:x.e<=4611686018427387904) (w:World) (h:RowAt intL w w.heap.size A x.d):
 Calls prog 121 #[.agg #[.bool x.neg,.slice A x.d.length c,.int .i64 x.e]] w fun e' w'=>e'=.returned (.string ⟨(Gr.text x).toArray⟩)/\Below w.heap.size w w':=by
 have l:=hid (fun(W:World) (hW:RowAt intL W W.heap.size A x.d)=>zrk x A c hl hd W hW);have z:(coef x).length<=1073741825:=by
  unfold coef;split
  .simp
  .have:=zdq x.neg;unfold signS at this;rw[Q1,Z5];omega
 have m:=zhn x.e (by omega) (by omega);obtain⟨r,o⟩:=ex (coef x)
 obtain⟨H,j⟩:=ex (Gr.text x)
 have s:Hid (H=r++101::Lib.itoa x.e):=hid (by rw[<-j,<-o];rfl);rw[o]at l z;rw[j];clear o j;obtain⟨neg,d,E⟩:=x;simp only at hl h0 h1 h l m s ⊢;obtain⟨t,F⟩:=ex (Lib.itoa E)
 have n:=hid (fun(W:World)=>zkv E h0 h1 W);rw[F]at m s n;clear F;have i:=hid h;clear h hd;go_enter func121,ntmps121;go_upto_region 1 with fail;obtain⟨a,k⟩:=ex (w.alloc (.cells #[.bool neg,.slice A d.length c,.int .i64 E] 133))
 obtain⟨g,f⟩:=ex w.heap.size
 have b:Hid (Blk a g 133 #[.bool neg,.slice A d.length c,.int .i64 E]/\Below g w a/\a.heap.size=g+1):=hid (by rw[<-k,<-f];exact⟨Q5 _ _ _,(K2 _ _).alloc (K3 _) _,by simp⟩);have B:=hid f;rw[f]at i;(try rw[k]);(try rw[f]);clear k f;have y:a.heap.size=g+1:=b.out.2.2;have D:Hid (∀W:WB a.heap.size a,Calls prog 153 #[.agg #[.bool neg,.slice A d.length c,.int .i64 E]] W.w (fun e q=>e=.returned (.string ⟨r.toArray⟩)/\Below a.heap.size a q)/\Calls prog 154 #[.int .i64 E] W.w (fun e q=>e=.returned (.string ⟨t.toArray⟩)/\Below a.heap.size a q)):=hid (fun W=>⟨(l.out W.w (((i.out.below b.out.2.1).below (W.h.mono (by omega))).more (by have:=W.h.size;omega))).mono (fun _ _ ⟨u,C⟩=>⟨u,W.h.trans (C.mono W.h.size)⟩),(n.out W.w).mono (fun _ _ ⟨u,C⟩=>⟨u,W.h.trans (C.mono W.h.size)⟩)⟩);have p0:∀W:WB a.heap.size a,W.w.cell? ⟨g,0,none⟩=some (.bool neg):=fun W=>(W.h.cell (p:=⟨g,0,none⟩) (by simp;omega)).trans (b.out.1.cell 0)
 have p1:∀W:WB a.heap.size a,W.w.cell? ⟨g,1,none⟩=some (.slice A d.length c):=fun W=>(W.h.cell (p:=⟨g,1,none⟩) (by simp;omega)).trans (b.out.1.cell 1)
 have p2:∀W:WB a.heap.size a,W.w.cell? ⟨g,2,none⟩=some (.int .i64 E):=fun W=>(W.h.cell (p:=⟨g,2,none⟩) (by simp;omega)).trans (b.out.1.cell 2)
 have hadd:=fun W=>zad r [101] (by simp;omega) W
 have hadd2:=fun W=>zad (r++[101]) t (by simp;omega) W
 clear y;refine zac a.heap.size a (by kernel_rfl) (by kernel_rfl) (K2 _ _) ?_
 repeat (go_big_quiet_step ((first| (with_reducible refine Y9 (D.out _).1)| (with_reducible refine Y9 (D.out _).2))))
 refine wpQuiet_nil ?_;rintro _ ⟨G,rfl⟩;go_wp2;go_ret;rw[s.out,B.out];exact⟨rfl,b.out.2.1.trans (G.h.mono (by have:=b.out.2.2;omega))⟩
def NumI (x:V6) (v:Value) (B:Nat) (w:World):Prop:=∃A c,v=.agg #[.bool x.neg,.slice A x.d.length c,.int .i64 x.e]/\OwnRow intL w B 3 (.slice A x.d.length c) x.d
def zfu (x:V6) (w:World) (e:Ending) (w':World):Prop:=∃v,e=.returned v/\NumI x v w.heap.size w'/\Below w.heap.size w w'
theorem zrm {d:List Nat} {k:Nat} (h:k<d.length):(d.drop k).dropWhile isZ=if d[k]=0 then(d.drop (k+1)).dropWhile isZ else d.drop k:=by
 rw[U5 h];by_cases h0:d[k]=0
 .rw[if_pos h0,h0,zqb]
 .rw[if_neg h0,zvr _ _ h0]
theorem zgd {d:List Nat} {k m:Nat} (hk:k<=m) (h:m<d.length):(d.take (m+1)).drop k=(d.take m).drop k++[d[m]]:=by
 rw[K4 h,List.drop_append_of_le_length (by simp;omega)]
theorem zbk {α:Type} {L:Lay α} {W w2:World} {g base:Nat} {t E:TypeId} {cs:Array Value} {v:Value} {l:List α} (hb:Blk W g t cs) (ho:OwnRow L W base E v l) (hg:W.grownBy w2 v.ownBlock) (h:g<base):Blk w2 g t cs:=
 hb.grown hg (fun e=>absurd (ho.lt g e.symm).1 (by omega))
theorem zrn (neg:Bool) (A:Option Addr) (c:Nat) (d:List Nat) (E:Int) (hl:d.length<=1073741823) (hE0:-1152921504606846976<=E) (hE1:E<=1152921504606846976) (hd:∀v∈d,v<10) (w:World) (h:RowAt intL w w.heap.size A d):
 Calls prog 152 #[.bool neg,.slice A d.length c,.int .i64 E] w (zfu (norm neg d E) w):=by
 obtain⟨r,hr⟩:=ex (norm neg d E)
 have HR:=hid hr;rw[hr];clear hr;have l:=hid h;have HD:=hid hd;clear h hd;go_enter func152,ntmps152;go_upto_region 1 with fail;obtain⟨w1,T⟩:=ex (w.alloc (.cells #[.bool false,.slice none 0 0,.int .i64 0] 133))
 obtain⟨a,G⟩:=ex w.heap.size
 have f:Hid (Blk w1 a 133 #[.bool false,.slice none 0 0,.int .i64 0]/\Below a w w1/\w1.heap.size=a+1):=hid (by rw[<-T,<-G];exact⟨Q5 _ _ _,(K2 _ _).alloc (K3 _) _,by simp⟩);have P:=hid G;rw[G]at l;(try rw[T]);(try rw[G]);clear T G;go_wp2_with fail;go_loop [7] (fun s7=>∃k:Nat,k<=d.length/\s7=.int .i64 k/\Hid ((d.drop k).dropWhile isZ=d.dropWhile isZ)) (fun s7=>d.length-(intOf s7).toNat)
 case atStart=>exact⟨0,by omega,rfl,hid rfl⟩
 case round=>
  obtain⟨k,hk,rfl,HV⟩:=hrel;by_cases hlt:k<d.length
  .have aj:(k:Int)<(d.length:Int):=by omega
   obtain⟨v,Q⟩:=ex (d[k])
   obtain⟨ad,rfl,_,I⟩:=zaf (l.out.below f.out.2.1) hlt;rw[Q]at I;by_cases hz:v=0
   .subst hz;have C:Hid ((d.drop (k+1)).dropWhile isZ=d.dropWhile isZ):=hid (by rw[<-HV.out,zrm hlt,if_pos Q]);clear Q;rw[show((0:Nat):Int)=0 from rfl]at I;go_wp2;go_round
    case rel=>exact⟨k+1,by omega,by go_num,C⟩
    case measure=>simp[intOf];omega
   .have hv10:v<10:=by rw[<-Q];exact HD.out _ (Q4 hlt)
    have HM:Hid (r=⟨neg,Z7 (d.drop k),E+(((d.drop k).length-(Z7 (d.drop k)).length:Nat):Int)⟩/\d[k]=v):=hid ⟨by
     have O:=HV.out;rw[zrm hlt,if_neg (by rw[Q];exact hz)]at O;rw[<-HR.out];unfold norm;rw[<-O,if_neg (by intro e;have:=congrArg List.length e;simp at this;omega)],Q⟩
    obtain⟨H,D⟩:∃H:Int,(v:Int)=H:=⟨_,rfl⟩
    have o:¬H=0:=by omega
    have z:(H==0)=false:=by simpa using o
    rw[D]at I;clear Q D;go_wp2_with fail;clear I o z;go_loop [8,2] (fun s8 s2=>∃m:Nat,k<m/\m<=d.length/\s8=.int .i64 (m:Int)/\s2=.int .i64 (E+((d.length-m:Nat):Int))/\Hid (Z7 ((d.take m).drop k)=Z7 (d.drop k))) (fun s8 _=>(intOf s8).toNat)
    case atStart=>exact⟨d.length,by omega,K3 _,rfl,by simp,hid (by rw[X4])⟩
    case round=>
     obtain⟨m,hkm,hmd,rfl,rfl,Z⟩:=hrel;obtain⟨j,rfl⟩:∃j,m=j+1:=⟨m-1,by omega⟩
     have ai:j<d.length:=by omega
     have am:(k:Int)<((j+1:Nat):Int):=by omega
     obtain⟨u,hu⟩:=ex (d[j])
     obtain⟨ad',B,_,I⟩:=zaf (l.out.below f.out.2.1) ai;injection B with B
     subst B;rw[hu]at I;have HT:Hid ((d.take (j+1)).drop k=(d.take j).drop k++[u]):=hid (by rw[zgd (by omega) ai,hu]);have HU:=hid hu;have hj0I:(0:Int)<=(j:Int):=by omega
     have hjI:(j:Int)<=1073741823:=by omega
     clear hu;by_cases z:u=0
     .subst z;have ap:k<j:=by
       rcases X3 k j with h0|h0
       .exact h0
       .obtain rfl:j=k:=by omega
        exact absurd (HM.out.2.symm.trans HU.out) hz
      have C:Hid (Z7 ((d.take j).drop k)=Z7 (d.drop k)):=hid (by rw[<-Z.out,HT.out,zhl,if_pos rfl]);rw[show((0:Nat):Int)=0 from rfl]at I;go_wp2;go_round
      case rel=>exact⟨j,ap,by omega,by go_num,by go_num,C⟩
      case measure=>simp[intOf]
     .have HF:Hid (r=⟨neg,(d.take (j+1)).drop k,E+((d.length-(j+1):Nat):Int)⟩):=hid (by
       have O:=Z.out;rw[HT.out,zhl,if_neg z,<-HT.out]at O;rw[HM.out.1,<-O]
       congr 3
       simp only[Y1,V8];omega)
      obtain⟨H,D⟩:∃H:Int,(u:Int)=H:=⟨_,rfl⟩
      have o:¬H=0:=by omega
      have z:(H==0)=false:=by simpa using o
      rw[D]at I;clear D;have K:¬((k:Int)=((j+1:Nat):Int)):=by omega
      have ae:((k:Int)==((j+1:Nat):Int))=false:=by rw[qqq];exact K
      have ab:((k:Int)==(j:Int)+1)=false:=by rw[qqq];omega
      obtain⟨X,hX⟩:∃X:Int,E+((d.length-(j+1):Nat):Int)=X:=⟨_,rfl⟩
      rw[hX]at HF ⊢;go_upto_region 10 with fail;obtain⟨w2,W⟩:=ex (w1.alloc (.cells #[.bool neg,.slice none 0 0,.int .i64 X] 133))
      have o:w1.heap.size=a+1:=f.out.2.2;have V:Hid (Blk w2 (a+1) 133 #[.bool neg,.slice none 0 0,.int .i64 X]/\Blk w2 a 133 #[.bool false,.slice none 0 0,.int .i64 0]/\Below a w w2/\a+2<=w2.heap.size):=hid (by
       rw[<-W,<-o];exact⟨Q5 _ _ _,f.out.1.alloc _,f.out.2.1.alloc (by omega) _,by simp;omega⟩)
      (try rw[o]);(try rw[W]);clear W o I z K ae ab;obtain⟨n,hn⟩:=ex (j+1-k)
      obtain⟨Y,hY⟩:=ex ((d.take (j+1)).drop k)
      have J:Hid (Y.length=n/\∀i (h:i<n),∃h2:k+i<d.length,∃h3:i<Y.length,Y[i]=d[k+i]):=hid (by
       have O:Y.length=n:=by rw[<-hY,<-hn];simp;omega
       refine⟨O,fun i hi=>⟨by omega,by omega,?_⟩⟩;simp only[<-hY,X1,List.getElem_take])
      rw[hY]at HF;have hkn:k+n=j+1:=by omega
      have an:((j:Int)+1)=((k+n:Nat):Int):=by omega
      clear hY;go_wp2_with fail;clear an am;go_loopw [10] (fun s10 wr=>∃p i:Nat,i<=n/\s10=.int .i64 (p:Int)/\Hid (p=k+i)/\Hid (∃A9 c9,Blk wr (a+1) 133 #[.bool neg,.slice A9 i c9,.int .i64 X]/\OwnRow intL wr (a+2) 3 (.slice A9 i c9) (Y.take i)/\Blk wr a 133 #[.bool false,.slice none 0 0,.int .i64 0]/\Below a w wr/\a+2<=wr.heap.size)) (fun s10 _=>k+n-(intOf s10).toNat)
      case atStart=>exact⟨k,0,by omega,rfl,hid rfl,hid ⟨none,0,V.out.1,Y7,V.out.2⟩⟩
      case round=>
       obtain⟨p,i,hi,rfl,HP,HW⟩:=hrel;obtain⟨g,ar⟩:∃g,g=wr:=⟨_,rfl⟩
       subst ar;obtain⟨A9,c9,M,vo,v0,vb,vs⟩:=HW.out;by_cases hlt3:i<n
       .have U:(p:Int)<(j:Int)+1:=by have:=HP.out;omega
        obtain⟨aq,aw,ah⟩:=J.out.2 i hlt3;obtain⟨ad2,y,_,y1⟩:=zaf (l.out.below vb) aq;injection y with y
        subst y;obtain⟨x,hx⟩:=ex (d[k+i])
        rw[hx,<-HP.out]at y1;have hpd:(p:Int)<(d.length:Int):=by have:=HP.out;omega
        have hp1:(p:Int)<=1073741823:=by omega
        have aB:Hid (Y.take (i+1)=Y.take i++[x]):=hid (by rw[K4 aw,ah,hx]);have al:Hid ((Y.take i).length=i):=hid (by rw[V8];omega);have q1:g.cell? ⟨a+1,1,none⟩=some (.slice A9 i c9):=M.cell 1;have qf:∀j,g.frozen? ⟨a+1,j,none⟩=false:=M.frozen;have F:OwnRow intL (g.alloc (.cells #[.int .i64 (x:Int)] 3)).drew (a+2) 3 (.slice A9 i c9) (Y.take i):=vo.alloc _;have N:RowAt intL (g.alloc (.cells #[.int .i64 (x:Int)] 3)).drew (g.heap.size+1) (some ⟨g.heap.size,0,none⟩) [x]:=V1 x _ rfl _ rfl;have ax:(Y.take i).length+[x].length<=1073741824:=by rw[al.out];simp;omega
        have ac:a+2<=(g.alloc (.cells #[.int .i64 (x:Int)] 3)).drew.heap.size:=by simp;omega
        have b:Hid (Blk (g.alloc (.cells #[.int .i64 (x:Int)] 3)).drew (a+1) 133 #[.bool neg,.slice A9 i c9,.int .i64 X]/\Blk (g.alloc (.cells #[.int .i64 (x:Int)] 3)).drew a 133 #[.bool false,.slice none 0 0,.int .i64 0]/\Below a w (g.alloc (.cells #[.int .i64 (x:Int)] 3)).drew/\OwnRow intL (g.alloc (.cells #[.int .i64 (x:Int)] 3)).drew (a+2) 3 (.slice A9 i c9) (Y.take i)/\a+2<=(g.alloc (.cells #[.int .i64 (x:Int)] 3)).drew.heap.size):=hid ⟨M.alloc _,v0.alloc _,below_drewN (vb.alloc (by omega) _) 1,F,ac⟩;have e1:=X0 g _ q1;have e2:=X0 g _ y1;have pcA:(g.alloc (.cells #[.int .i64 (x:Int)] 3)).cell? ⟨a+1,1,none⟩=some (.slice A9 i c9):=(M.alloc _).cell 1;have pyA:(g.alloc (.cells #[.int .i64 (x:Int)] 3)).cell? (ad.add p)=some (.int .i64 (x:Int)):=(World.cell?_alloc_lt g _ _ (World.block_lt_of_cell? g _ y1)).trans y1;clear ah hx M vo v0 vb J HV Z HM HT HU HF HR HD f V l P;go_upto_region 13 with fail
        focus
         go_region_law (refine zai _ rfl (.tmp 54) (.tmp 59) 35 3 8 rfl intT (a+2) (.slice A9 i c9) (Y.take i) rfl F _ _ 1 [x] rfl N ax ac ?_;intro v' L s R aa;obtain⟨A8,c8,af,_⟩:=s.form;obtain⟨q,hq⟩:=ex ((Y.take i++[x]).length);rw[hq]at af;subst af;have k1:=zbk b.out.1 b.out.2.2.2.1 R (Nat.lt_succ_self _);have S:=hid R;have ag:=hid s;have HQ:=hid hq;have qf3:∀j,L.frozen? ⟨a+1,j,none⟩=false:=k1.frozen;have q13:L.cell? ⟨a+1,1,none⟩=some (.slice A9 i c9):=k1.cell 1;have av:=hid k1;clear R s hq k1 aa)
         all_goals go_wp2_with fail
         all_goals
          have az:q=i+1:=by rw[<-HQ.out,Q1,al.out];rfl
          have C:Hid (∃A9 c9,Blk (L.setCell ⟨a+1,1,none⟩ (.slice A8 q c8)) (a+1) 133 #[.bool neg,.slice A9 (i+1) c9,.int .i64 X]/\OwnRow intL (L.setCell ⟨a+1,1,none⟩ (.slice A8 q c8)) (a+2) 3 (.slice A9 (i+1) c9) (Y.take (i+1))/\Blk (L.setCell ⟨a+1,1,none⟩ (.slice A8 q c8)) a 133 #[.bool false,.slice none 0 0,.int .i64 0]/\Below a w (L.setCell ⟨a+1,1,none⟩ (.slice A8 q c8))/\a+2<=(L.setCell ⟨a+1,1,none⟩ (.slice A8 q c8)).heap.size):=hid (by
           subst az;have k0:=zbk b.out.2.1 b.out.2.2.2.1 S.out (by omega);have kb:=b.out.2.2.1.trans ((b.out.2.2.2.1.grown_below S.out b.out.2.2.2.2).mono (by omega));have ks:=(b.out.2.2.2.1.grown_below S.out b.out.2.2.2.2).size;refine⟨A8,c8,av.out.set_ 1 _,by rw[aB.out];exact ag.out.setCell (fun e=>absurd (ag.out.lt _ e).1 (by simp)) _,k0.far (by simp) _,kb.setCell (by simp) _,?_⟩;have:=b.out.2.2.2.2;simp[K9];omega)
          go_roundw
          case rel=>exact⟨p+1,i+1,by omega,by go_num,hid (by have:=HP.out;omega),C⟩
          case measure=>have:=HP.out;simp[intOf];omega
       .obtain rfl:i=n:=by omega
        have U:¬(p:Int)<(j:Int)+1:=by have:=HP.out;omega
        have au:Hid (Y.take i=Y):=hid (Q8 (by rw[J.out.1];exact K3 _));have ak:Hid (Y.length=i):=hid J.out.1;have p0:∀j,g.frozen? ⟨a,j,none⟩=false:=v0.frozen;obtain⟨q0,q1,q2⟩:=cells3 v0;obtain⟨x0,x1,x2⟩:=cells3 M;have ay:=hid v0;have aC:=hid vo;have ao:=hid vb;clear v0 vo vb M vs;go_wp2_with fail;have t:=((ay.out.set_ 0 (.bool neg)).set_ 1 (.slice A9 i c9)).set_ 2 (.int .i64 X);have e0:=t.cell 0;have e1:=t.cell 1;have e2:=t.cell 2;refine W6 (v:=.agg #[.bool neg,.slice A9 i c9,.int .i64 X]) (by simp[results,results152,go_sem,e0,e1,e2]) rfl ?_;rw[HF.out];unfold zfu;rw[P.out];have ho:=aC.out;rw[au.out]at ho;have aA:=((ho.setCell (p:=⟨a,0,none⟩) (fun e=>absurd (ho.lt _ e).1 (by simp)) (.bool neg)).setCell (p:=⟨a,1,none⟩) (fun e=>absurd (ho.lt _ e).1 (by simp)) (.slice A9 i c9)).setCell (p:=⟨a,2,none⟩) (fun e=>absurd (ho.lt _ e).1 (by simp)) (.int .i64 X);refine⟨_,rfl,⟨A9,c9,by rw[ak.out],?_⟩,((ao.out.setCell (p:=⟨a,0,none⟩) (by simp) _).setCell (p:=⟨a,1,none⟩) (by simp) _).setCell (p:=⟨a,2,none⟩) (by simp) _⟩;rw[ak.out];exact aA.lower (by omega)
  .have aj:¬(k:Int)<(d.length:Int):=by omega
   obtain rfl:k=d.length:=by omega
   have HF:Hid (r=zeroD):=hid (by
    rw[<-HR.out];unfold norm;rw[if_pos (by rw[<-HV.out,List.drop_length];rfl)])
   have p0:∀j,w1.frozen? ⟨a,j,none⟩=false:=f.out.1.frozen;obtain⟨q0,q1,q2⟩:=cells3 f.out.1;go_wp2_with fail;go_loop [8,2] (fun s8 s2=>s8=.int .i64 (d.length:Int)/\s2=.int .i64 E) (fun _ _=>0)
   case atStart=>exact⟨rfl,rfl⟩
   case round=>
    obtain⟨rfl,rfl⟩:=hrel;go_wp2_with fail;have t:=((f.out.1.set_ 0 (.bool false)).set_ 1 (.slice none 0 0)).set_ 2 (.int .i64 0);have e0:=t.cell 0;have e1:=t.cell 1;have e2:=t.cell 2;refine W6 (v:=.agg #[.bool false,.slice none 0 0,.int .i64 0]) (by simp[results,results152,go_sem,e0,e1,e2]) rfl ?_;rw[HF.out];exact⟨_,rfl,⟨none,0,rfl,Y7⟩,by rw[P.out];exact((f.out.2.1.setCell (p:=⟨a,0,none⟩) (by simp) _).setCell (p:=⟨a,1,none⟩) (by simp) _).setCell (p:=⟨a,2,none⟩) (by simp) _⟩
theorem zhx (s:Q0) (a:Nat):(s.drop a).dropWhile K8=s.drop (a+(rdg s a).length):=by
 have h:=Y0 (p:=K8) (l:=s.drop a);have b:=congrArg (List.drop (rdg s a).length) h;unfold rdg at b ⊢;rw[List.drop_left,Z9]at b;exact b
theorem zro (s:Q0) (a:Nat) (h:a<=s.length):a+(rdg s a).length<=s.length:=by
 have:(rdg s a).length<=(s.drop a).length:=(List.takeWhile_sublist K8).length_le;rw[Y1]at this;omega
theorem zb9 (s:Q0) (k:Nat):(s.drop k).head?=s[k]? :=by rw[Z6]
theorem zfv (s:Q0) (k:Nat):(s.drop k).tail=s.drop (k+1):=by rw[List.tail_drop]
theorem zl4 (s:Q0) (a:Nat) (h:0<(rdg s a).length):(rdg s a).head?=s[a]? :=by
 rw[<-zb9];unfold rdg at h ⊢;cases hd:s.drop a with
 |nil=>rw[hd]at h;simp at h
 |cons c l=>
  rw[hd]at h;rw[V2]at h ⊢;split
  .rfl
  .grind
theorem zxo (sat:Nat) (neg:Bool) (s:Q0) (a:Nat):numT sat neg (s.drop a)=if rdg s a=[]\/(s[a]? =some 48/\1<(rdg s a).length)then none
 else if s[a+(rdg s a).length]? =some 46 then
  if rdg s (a+(rdg s a).length+1)=[]then none else expS sat neg (vals (rdg s a)++vals (rdg s (a+(rdg s a).length+1))) (-((rdg s (a+(rdg s a).length+1)).length:Int)) (s.drop (a+(rdg s a).length+1+(rdg s (a+(rdg s a).length+1)).length))
 else expS sat neg (vals (rdg s a)) 0 (s.drop (a+(rdg s a).length)):=by
 unfold numT;have b:(s.drop a).takeWhile K8=rdg s a:=rfl;rw[b,zhx,zb9,zfv,zhx];have c:(s.drop (a+(rdg s a).length+1)).takeWhile K8=rdg s (a+(rdg s a).length+1):=rfl;rw[c];have d:vals (rdg s a++rdg s (a+(rdg s a).length+1))=vals (rdg s a)++vals (rdg s (a+(rdg s a).length+1)):=by simp[vals]
 rw[d];by_cases h0:rdg s a=[]
 .grind
 .rw[zl4 s a (V3.2 h0)]
theorem zxp (sat:Nat) (neg:Bool) (d:List Nat) (e:Int) (s:Q0) (t:Nat) (ht:t<=s.length) (h1:s[t]? ≠some 101) (h2:s[t]? ≠some 69):expS sat neg d e (s.drop t)=if t=s.length then some (norm neg d e)else none:=by
 unfold expS;rw[zb9];by_cases h:t=s.length
 .grind
 .rw[if_neg (by intro e;have:=congrArg List.length e;simp at this;omega),if_neg (fun e=>e.elim h1 h2),if_neg h]
theorem zkw (s:Q0) (b:Nat) (hb:b<=s.length):(s.drop b).all K8=true↔b+(rdg s b).length=s.length:=by
 constructor
 .intro h;have:rdg s b=s.drop b:=by
   unfold rdg;have:=X9 (p:=K8) (l₁:=s.drop b) (l₂:=[]) (by simpa using h);simpa using this
  rw[this,Y1];omega
 .intro h;have a:=Y0 (p:=K8) (l:=s.drop b);rw[zhx,show s.drop (b+(rdg s b).length)=[]from Y6 (by omega),U0]at a;rw[<-a];exact zek _
theorem zrp (s:Q0) (b:Nat) (h:b+(rdg s b).length=s.length):rdg s b=s.drop b:=by
 have a:=Y0 (p:=K8) (l:=s.drop b);rw[zhx,show s.drop (b+(rdg s b).length)=[]from Y6 (by omega),U0]at a;exact a
theorem zxq (sat:Nat) (neg:Bool) (d:List Nat) (e:Int) (s:Q0) (t b:Nat) (minus:Bool) (ht:t<s.length) (h1:s[t]? =some 101\/s[t]? =some 69) (hb:b=if s[t+1]? =some 45\/s[t+1]? =some 43 then t+2 else t+1) (hm:minus=decide (s[t+1]? =some 45)) (hbl:b<=s.length):
 expS sat neg d e (s.drop t)=if rdg s b=[]then none else if b+(rdg s b).length=s.length then some (norm neg d (e+(if minus=true then -1 else 1)*(satv sat (rdg s b):Int)))else none:=by
 unfold expS;rw[if_neg (by intro e;have:=congrArg List.length e;simp at this;omega),zb9,if_pos h1,zfv];have c:expT (s.drop (t+1))=s.drop b:=by
  unfold expT;rw[zb9,zfv,hb];split<;>rfl
 have f:expV sat (s.drop (t+1))=(if minus=true then -1 else 1)*(satv sat (s.drop b):Int):=by
  unfold expV;rw[c,zb9,hm];by_cases h:s[t+1]? =some 45
  .grind
  .grind
 rw[c,f];by_cases he:rdg s b=[]
 .rw[if_pos he,if_pos];rcases X3 b s.length with h|h
  .right;rw[V7];intro a;have:=(zkw s b hbl).1 a;rw[he]at this;simp at this;omega
  .grind
 .rw[if_neg he];by_cases a:b+(rdg s b).length=s.length
  .rw[if_pos a,if_neg,zrp s b a];rintro(h|h)
   .rw[<-zrp s b a]at h;exact he h
   .rw[(zkw s b hbl).2 a]at h;cases h
  .rw[if_neg a,if_pos];right;rw[V7];exact fun h=>a ((zkw s b hbl).1 h)
def zch (o:Option V6) (w:World) (e:Ending) (w':World):Prop:=∃x v,e=.returned (.tuple #[v,.bool o.isSome])/\NumI x v w.heap.size w'/\(∀y,o=some y->x=y)/\Below w.heap.size w w'
theorem zrq (s:Q0) (_hl:s.length<=268435455) (w wc:World) (gb n c t2:Nat) (A:Option Addr) (neg:Bool) (ev2:Int) (ds:List Nat) (r:Option V6) (HGB:Hid (w.heap.size=gb))
 (HT:Hid (n=ds.length/\ds.length<=536870911/\(∀v∈ds,v<10))) (HE2:Hid (t2<=s.length/\-1152921504606846976<=ev2/\ev2<=1152921504606846976/\r=if t2=s.length then some (W4 neg ds ev2)else none)) (HO2:Hid (OwnRow intL wc (gb+1) 3 (.slice A n c) ds)) (HB2:Hid (Blk wc gb 133 #[.bool false,.slice none 0 0,.int .i64 0]/\Below gb w wc))
 {u1 u3 u7 u9 u10 u11 u12 u13 u14 u15 u16 u17 u18 u19 u20 u21 u22 u23 u24 u25 u26 u27 u28 u29 u30 u31 u32 u33 u34 u35 u36 u37 u38 u39 u40 u41 u42 u43 u44 u45 u46 u47 u48 u49 u50 u51 u52 u53 u54 u55 u56 u57 u58 u59 u60 u61 u62 u63 u64 u65 u66 u67 u68 u69 u70 u71 u72 u73 u74 u75 u76 u77 u78 u79 u80 u81 u82 u83 u84 u85 u86 u87 u88 u89 u90 u91 u92 u93 u94 u95 u96 u97 u98 u99 u100 u101 u102 u103 u104 u105 u106 u107 u108 u109 u110 u111 u112 u113 u114 u115 u116 u117 u118 u119 u120 u121 u122 u123 u124 u125 u126 u127 u128 u129 u130 u131 u132 u133 u134 u135 u136 u137 u138 u139 u140 u141 u142 u143 u144 u145 u146 u147 u148 u149 u150 u151 u152 u153 u154:Value}:
 Code.wp prog (tl 10 (f119.body.getD .skip)) (bodyPost prog f119 (zch r w)) {tmps:=Q6 (.string ⟨s.toArray⟩::u1::.pointer (some ⟨gb,0,none⟩)::u3::.int .i64 (t2:Int)::.bool neg::.slice A n c::u7::.int .i64 ev2::u9::u10::u11::u12::u13::u14::u15::u16::u17::u18::u19::u20::u21::u22::u23::u24::u25::u26::u27::u28::u29::u30::u31::u32::u33::u34::u35::u36::u37::u38::u39::u40::u41::u42::u43::u44::u45::u46::u47::u48::u49::u50::u51::u52::u53::u54::u55::u56::u57::u58::u59::u60::u61::u62::u63::u64::u65::u66::u67::u68::u69::u70::u71::u72::u73::u74::u75::u76::u77::u78::u79::u80::u81::u82::u83::u84::u85::u86::u87::u88::u89::u90::u91::u92::u93::u94::u95::u96::u97::u98::u99::u100::u101::u102::u103::u104::u105::u106::u107::u108::u109::u110::u111::u112::u113::u114::u115::u116::u117::u118::u119::u120::u121::u122::u123::u124::u125::u126::u127::u128::u129::u130::u131::u132::u133::u134::u135::u136::u137::u138::u139::u140::u141::u142::u143::u144::u145::u146::u147::u148::u149::u150::u151::u152::u153::u154::[]),defers:=[]} wc:=by
 generalize hc0:tl 10 (f119.body.getD .skip)=c0;simp only[tl,f119,Q3]at hc0;subst hc0;have C:=HO2.out.form;have q:n=ds.length:=HT.out.1;have E:Hid (∀W,Below wc.heap.size wc W->W=wc->Calls prog 152 #[.bool neg,.slice A n c,.int .i64 ev2] W (zfu (W4 neg ds ev2) W)):=Q9 (fun W _ J=>by
  subst J;obtain⟨A',c',H,m⟩:=HO2.out.form;rw[q]at H ⊢;injection H with e1 e2 e3
  subst e1;exact zrn neg A c ds ev2 (by have:=HT.out.2.1;omega) HE2.out.2.1 HE2.out.2.2.1 HT.out.2.2 W m)
 have i:=Q9 HE2.out.2.2.2;have ht2s:t2<=s.length:=HE2.out.1;obtain⟨b,a⟩:=ex (decide (t2=s.length))
 have hfb:((t2:Int)==(s.length:Int))=b:=by
  rw[<-a,U1];simp;omega
 have hfb2:(t2==s.length)=b:=by
  rw[<-a,U1];simp
 have B:=Q9 a;clear C q a HT HE2;go_wp2_with fail;refine(E.out wc (K2 _ _) rfl).mono ?_;rintro e G ⟨v,rfl,⟨z,t,rfl,o⟩,l⟩;have g:Hid (Blk G gb 133 #[.bool false,.slice none 0 0,.int .i64 0]/\Below gb w G):=Q9 ⟨HB2.out.1.below l HB2.out.1.lt,HB2.out.2.trans (l.mono (U8 HB2.out.1.lt))⟩;have f:=Q9 (o.lower (show gb+1<=wc.heap.size from HB2.out.1.lt));have p0:∀j,G.frozen? ⟨gb,j,none⟩=false:=g.out.1.frozen;obtain⟨q0,q1,q2⟩:=cells3 g.out.1;obtain⟨x,I⟩:=ex (W4 neg ds ev2)
 rw[I]at f i ⊢;clear I o l;go_wp2_with fail;have k:=((g.out.1.set_ 0 (.bool x.neg)).set_ 1 (.slice z x.d.length t)).set_ 2 (.int .i64 x.e);have e0:=k.cell 0;have e1:=k.cell 1;have e2:=k.cell 2;refine W6 (v:=.tuple #[.agg #[.bool x.neg,.slice z x.d.length t,.int .i64 x.e],.bool b]) (by rw[W7 rfl];go_simp) rfl ?_;have F:r.isSome=b:=by
  rw[i.out,<-B.out];by_cases h:t2=s.length
  .rw[if_pos h];simp[h]
  .rw[if_neg h];simp[h]
 unfold zch;rw[HGB.out,F];have D:=((f.out.setCell (p:=⟨gb,0,none⟩) (fun e=>absurd (f.out.lt _ e).1 (by simp)) (.bool x.neg)).setCell (p:=⟨gb,1,none⟩) (fun e=>absurd (f.out.lt _ e).1 (by simp)) (.slice z x.d.length t)).setCell (p:=⟨gb,2,none⟩) (fun e=>absurd (f.out.lt _ e).1 (by simp)) (.int .i64 x.e);refine⟨x,_,rfl,⟨z,t,rfl,D.lower (by omega)⟩,fun y u=>?_,((g.out.2.setCell (p:=⟨gb,0,none⟩) (by simp) _).setCell (p:=⟨gb,1,none⟩) (by simp) _).setCell (p:=⟨gb,2,none⟩) (by simp) _⟩;rw[i.out]at u;split at u
 .injection u
 .cases u
def zbj (s:Q0) (a:Nat) (date:Bool) (Y M D:Int) (w:World) (e:Ending) (w':World):Prop:=∃(t:RT) (r:Int),e=.returned (.tuple #[t.v,.int .i64 r])/\Below w.heap.size w w'/\
 match clockAt s a with
 |none=>r=-1
 |some k=>r=(k.stop:Int)/\t=⟨date,true,false,Y,M,D,k.h,k.m,k.s,k.nanos,0,false⟩
def fracU (n:Nat):Nat:=if n<=8 then 10 ^ (8-n)else 0
structure Frac (s:Q0) (b n N U:Nat):Prop where
 le:b+n<=s.length
 dig:((s.drop b).take n).all K8=true
 u:U=fracU n
 nn:n<=9->N=V0 ((s.drop b).take n)*10 ^ (9-n)
 hi:N<=999999999
theorem zq2 (n:Nat):fracU n /10=fracU (n+1):=by
 unfold fracU;by_cases h:n+1<=8
 .rw[if_pos (by omega),if_pos h,show 8-n=(8-(n+1))+1 from by omega,U7,Nat.mul_div_cancel _ (by omega)]
 .grind
theorem Frac.start {s:Q0} {b:Nat} (h:b<=s.length):Frac s b 0 0 100000000:=⟨h,by simp,by simp[fracU],fun _=>by simp[V0],by omega⟩
theorem Frac.next {s:Q0} {b n N U:Nat} (h:Frac s b n N U) (hlt:b+n<s.length) (hd:K8 (s[b+n])=true):Frac s b (n+1) (N+U*W5 s[b+n]) (U /10):=by
 have d:=zcn s b n hlt;have a:((s.drop b).take (n+1)).all K8=true:=by rw[d,List.all_append,h.dig];simp[hd]
 refine⟨by omega,a,by rw[h.u,zq2],?_,?_⟩
 .intro g;rw[h.nn (by omega),d,zbp,h.u];unfold fracU;rw[if_pos (by omega),show 9-n=(8-n)+1 from by omega,U7,show 9-(n+1)=8-n from by omega];rw[X8,Y4 (10 ^ (8-n)) (W5 _)]
  congr 1
  rw[Y4 (10 ^ (8-n)) 10,<-W1,Y4 (V0 _) 10]
 .by_cases g:n+1<=9
  .have e:N+U*W5 s[b+n]=V0 ((s.drop b).take (n+1))*10 ^ (9-(n+1)):=by
    rw[h.nn (by omega),d,zbp,h.u];unfold fracU;rw[if_pos (by omega),show 9-n=(8-n)+1 from by omega,U7,show 9-(n+1)=8-n from by omega];rw[X8,Y4 (10 ^ (8-n)) (W5 _)]
    congr 1
    rw[Y4 (10 ^ (8-n)) 10,<-W1,Y4 (V0 _) 10]
   rw[e];have f:=zfe _ a;have c:((s.drop b).take (n+1)).length=n+1:=by simp;omega
   rw[c]at f;have:V0 ((s.drop b).take (n+1))*10 ^ (9-(n+1))<10 ^ (n+1)*10 ^ (9-(n+1)):=Nat.mul_lt_mul_of_pos_right f (Nat.pow_pos (by omega));rw[<-Nat.pow_add,show n+1+(9-(n+1))=9 from by omega]at this;omega
  .have:U=0:=by rw[h.u];unfold fracU;rw[if_neg (by omega)]
   rw[this,Nat.zero_mul];exact h.hi
theorem Frac.stop {s:Q0} {b n N U:Nat} (h:Frac s b n N U) (hn:∀h2:b+n<s.length,K8 (s[b+n]'h2)=false):(s.drop b).takeWhile K8=(s.drop b).take n:=by
 have a:s.drop b=(s.drop b).take n++s.drop (b+n):=by
  rw[<-Z9];exact(List.take_append_drop n (s.drop b)).symm
 rw[a,X9 (by simpa using h.dig)];have h2:(s.drop (b+n)).takeWhile K8=[]:=by
  rcases X3 (b+n) s.length with h3|h3
  .rw[U5 h3,V2,hn h3];rfl
  .rw[Y6 h3];rfl
 have hle:=h.le;rw[h2,U0,X6 (by simp;omega),Z8,Nat.min_self]
theorem znj {s:Q0} {a h m c n N U:Nat} (h1:numAt s a 2=some h) (h2:numAt s (a+3) 2=some m) (h3:numAt s (a+6) 2=some c) (h4:isAt s (a+2) 58=true) (h5:isAt s (a+5) 58=true) (h6:isAt s (a+8) 46=true)
 (hf:Frac s (a+9) n N U) (hn:∀h2:a+9+n<s.length,K8 (s[a+9+n]'h2)=false):clockAt s a=if n<1\/9<n then none else some ⟨h,m,c,N,a+9+n⟩:=by
 have e:=hf.stop hn;have hle:=hf.le;have b:((s.drop (a+9)).take n).length=n:=by simp;omega
 unfold clockAt;rw[h1,h2,h3,h4,h5,h6,e,b];simp only[Bool.and_self,if_true];by_cases hc:n<1\/9<n
 .grind
 .rw[if_neg hc,if_neg (by omega),hf.nn (by omega)]
theorem zks {s:Q0} {a h m c:Nat} (h1:numAt s a 2=some h) (h2:numAt s (a+3) 2=some m) (h3:numAt s (a+6) 2=some c) (h4:isAt s (a+2) 58=true) (h5:isAt s (a+5) 58=true) (h6:isAt s (a+8) 46=false):clockAt s a=some ⟨h,m,c,0,a+8⟩:=by
 unfold clockAt;rw[h1,h2,h3,h4,h5,h6];rfl
theorem zce {B g:Nat} {w0 w:World} (h:Below B w0 w) (hg:B<=g) {v0 v1 v2 v3 v4 v5 v6 v7 v8 v9 v10 v11:Value}:Below B w0 ((((((((((((w.setCell ⟨g,0,none⟩ v0).setCell ⟨g,1,none⟩ v1).setCell ⟨g,2,none⟩ v2).setCell ⟨g,3,none⟩ v3).setCell ⟨g,4,none⟩ v4).setCell ⟨g,5,none⟩ v5).setCell ⟨g,6,none⟩ v6).setCell ⟨g,7,none⟩ v7).setCell ⟨g,8,none⟩ v8).setCell ⟨g,9,none⟩ v9).setCell ⟨g,10,none⟩ v10).setCell ⟨g,11,none⟩ v11):=
 ((((((((((((h.setCell (p:=⟨g,0,none⟩) hg v0).setCell (p:=⟨g,1,none⟩) hg v1).setCell (p:=⟨g,2,none⟩) hg v2).setCell (p:=⟨g,3,none⟩) hg v3).setCell (p:=⟨g,4,none⟩) hg v4).setCell (p:=⟨g,5,none⟩) hg v5).setCell (p:=⟨g,6,none⟩) hg v6).setCell (p:=⟨g,7,none⟩) hg v7).setCell (p:=⟨g,8,none⟩) hg v8).setCell (p:=⟨g,9,none⟩) hg v9).setCell (p:=⟨g,10,none⟩) hg v10).setCell (p:=⟨g,11,none⟩) hg v11)
theorem zbf {w:World} {g:Nat} {t:TypeId} {c0 c1 c2 c3 c4 c5 c6 c7 c8 c9 c10 c11 v0 v1 v2 v3 v4 v5 v6 v7 v8 v9 v10 v11:Value} (h:Blk w g t #[c0,c1,c2,c3,c4,c5,c6,c7,c8,c9,c10,c11]):Blk ((((((((((((w.setCell ⟨g,0,none⟩ v0).setCell ⟨g,1,none⟩ v1).setCell ⟨g,2,none⟩ v2).setCell ⟨g,3,none⟩ v3).setCell ⟨g,4,none⟩ v4).setCell ⟨g,5,none⟩ v5).setCell ⟨g,6,none⟩ v6).setCell ⟨g,7,none⟩ v7).setCell ⟨g,8,none⟩ v8).setCell ⟨g,9,none⟩ v9).setCell ⟨g,10,none⟩ v10).setCell ⟨g,11,none⟩ v11) g t #[v0,v1,v2,v3,v4,v5,v6,v7,v8,v9,v10,v11]:=by
 have a:=((((((((((((h.set_ 0 v0).set_ 1 v1).set_ 2 v2).set_ 3 v3).set_ 4 v4).set_ 5 v5).set_ 6 v6).set_ 7 v7).set_ 8 v8).set_ 9 v9).set_ 10 v10).set_ 11 v11)
 simp only[List.setIfInBounds_toArray,V5,List.set_cons_succ]at a;exact a
theorem znk (s:Q0) (_hl:s.length<=1073741823) (a:Nat) (ha:a<=1073741824) (date:Bool) (Y M D H N0 C:Int) (w wr:World) (gb:Nat)
 (HGO:Hid (∀(r:Int) (ok:Bool) (n:Int) (w':World),Below w.heap.size w w'->(clockAt s a=none/\r=-1\/∃h m c f t:Nat,clockAt s a=some ⟨h,m,c,f,t⟩/\r=(t:Int)/\ok=true/\H=h/\N0=m/\C=c/\n=f)->zbj s a date Y M D w (.returned (.tuple #[.agg #[.bool date,.bool ok,.bool false,.int .i64 Y,.int .i64 M,.int .i64 D,.int .i64 H,.int .i64 N0,.int .i64 C,.int .i64 n,.int .i64 0,.bool false],.int .i64 r])) w'))
 (HF:Hid (∃h m c:Nat,numAt s a 2=some h/\numAt s (a+3) 2=some m/\numAt s (a+6) 2=some c/\H=h/\N0=m/\C=c)) (HP:Hid (isAt s (a+2) 58=true/\isAt s (a+5) 58=true/\isAt s (a+8) 46=true)) (HGB:Hid (w.heap.size=gb)) (n F U:Nat) (_hn:n<=s.length) (_hF:F<=999999999)
 (HV:Hid ((∀h2:a+9+n<s.length,K8 (s[a+9+n]'h2)=false)/\Frac s (a+9) n F U/\Blk wr gb 164 (T12 date true false Y M D H N0 C (F:Int) 0 false)/\Blk wr (gb+1) 164 (T12 false false false 0 0 0 0 0 0 0 0 false)/\Below gb w wr))
 {u2 u3 u4 u7 u9 u10 u11 u12 u13 u14 u15 u16 u17 u18 u19 u20 u21 u22 u23 u24 u25 u26 u27 u28 u29 u30 u31 u32 u33 u34 u35 u36 u37 u38 u39 u40 u41 u42 u43 u44 u45 u46 u47 u48 u49 u50 u51 u52 u53 u54 u55 u56 u57 u58 u59 u60 u61 u62 u63 u64 u65 u66 u67 u68 u69 u70 u71 u72 u73 u74 u75 u76 u77 u78 u79 u80 u81 u82 u83 u84 u85 u86 u87 u88 u89 u90 u91 u92 u93 u94 u95 u96 u97 u98 u99 u100 u101 u102 u103 u104 u105 u106 u107 u108 u109 u110 u111 u112 u113 u114 u115:Value}:
 Code.wp prog (tl 9 (f185.body.getD .skip)) (bodyPost prog f185 (zbj s a date Y M D w)) {tmps:=Q6 (.string ⟨s.toArray⟩::.int .i64 ((a:Int)+8)::u2::u3::u4::.pointer (some ⟨gb,0,none⟩)::.pointer (some ⟨gb+1,0,none⟩)::u7::.int .i64 (n:Int)::u9::u10::u11::u12::u13::u14::u15::u16::u17::u18::u19::u20::u21::u22::u23::u24::u25::u26::u27::u28::u29::u30::u31::u32::u33::u34::u35::u36::u37::u38::u39::u40::u41::u42::u43::u44::u45::u46::u47::u48::u49::u50::u51::u52::u53::u54::u55::u56::u57::u58::u59::u60::u61::u62::u63::u64::u65::u66::u67::u68::u69::u70::u71::u72::u73::u74::u75::u76::u77::u78::u79::u80::u81::u82::u83::u84::u85::u86::u87::u88::u89::u90::u91::u92::u93::u94::u95::u96::u97::u98::u99::u100::u101::u102::u103::u104::u105::u106::u107::u108::u109::u110::u111::u112::u113::u114::u115::[]),defers:=[]} wr:=by
 generalize hc0:tl 9 (f185.body.getD .skip)=c0;simp only[tl,f185,Q3]at hc0;subst hc0;have k:Hid (∃h m c:Nat,clockAt s a=(if n<1\/9<n then none else some ⟨h,m,c,F,a+9+n⟩)/\H=h/\N0=m/\C=c):=hid (by
  obtain⟨h,m,c,d,h2,i,l,q,u⟩:=HF.out;exact⟨h,m,c,znj d h2 i HP.out.1 HP.out.2.1 HP.out.2.2 HV.out.2.1 HV.out.1,l,q,u⟩)
 have qb0:∀j,wr.frozen? ⟨gb+1,j,none⟩=false:=HV.out.2.2.2.1.frozen;have xb:∀j,wr.cell? ⟨gb+1,j,none⟩=(#[.bool false,.bool false,.bool false,.int .i64 0,.int .i64 0,.int .i64 0,.int .i64 0,.int .i64 0,.int .i64 0,.int .i64 0,.int .i64 0,.bool false]:Array Value)[j]? :=fun j=>HV.out.2.2.2.1.cell j
 obtain⟨ca0,ca1,ca2,ca3,ca4,ca5,ca6,ca7,ca8,ca9,ca10,ca11⟩:=zah HV.out.2.2.1;have o:Hid (Blk ((((((((((((wr.setCell ⟨gb+1,0,none⟩ (.bool date)).setCell ⟨gb+1,1,none⟩ (.bool true)).setCell ⟨gb+1,2,none⟩ (.bool false)).setCell ⟨gb+1,3,none⟩ (.int .i64 Y)).setCell ⟨gb+1,4,none⟩ (.int .i64 M)).setCell ⟨gb+1,5,none⟩ (.int .i64 D)).setCell ⟨gb+1,6,none⟩ (.int .i64 H)).setCell ⟨gb+1,7,none⟩ (.int .i64 N0)).setCell ⟨gb+1,8,none⟩ (.int .i64 C)).setCell ⟨gb+1,9,none⟩ (.int .i64 (F:Int))).setCell ⟨gb+1,10,none⟩ (.int .i64 0)).setCell ⟨gb+1,11,none⟩ (.bool false)) (gb+1) 164 (T12 date true false Y M D H N0 C (F:Int) 0 false)):=hid (zbf HV.out.2.2.2.1);have b:Hid (Below gb w ((((((((((((wr.setCell ⟨gb+1,0,none⟩ (.bool date)).setCell ⟨gb+1,1,none⟩ (.bool true)).setCell ⟨gb+1,2,none⟩ (.bool false)).setCell ⟨gb+1,3,none⟩ (.int .i64 Y)).setCell ⟨gb+1,4,none⟩ (.int .i64 M)).setCell ⟨gb+1,5,none⟩ (.int .i64 D)).setCell ⟨gb+1,6,none⟩ (.int .i64 H)).setCell ⟨gb+1,7,none⟩ (.int .i64 N0)).setCell ⟨gb+1,8,none⟩ (.int .i64 C)).setCell ⟨gb+1,9,none⟩ (.int .i64 (F:Int))).setCell ⟨gb+1,10,none⟩ (.int .i64 0)).setCell ⟨gb+1,11,none⟩ (.bool false))):=hid ((((((((((((HV.out.2.2.2.2.setCell (p:=⟨gb+1,0,none⟩) (by simp) (.bool date)).setCell (p:=⟨gb+1,1,none⟩) (by simp) (.bool true)).setCell (p:=⟨gb+1,2,none⟩) (by simp) (.bool false)).setCell (p:=⟨gb+1,3,none⟩) (by simp) (.int .i64 Y)).setCell (p:=⟨gb+1,4,none⟩) (by simp) (.int .i64 M)).setCell (p:=⟨gb+1,5,none⟩) (by simp) (.int .i64 D)).setCell (p:=⟨gb+1,6,none⟩) (by simp) (.int .i64 H)).setCell (p:=⟨gb+1,7,none⟩) (by simp) (.int .i64 N0)).setCell (p:=⟨gb+1,8,none⟩) (by simp) (.int .i64 C)).setCell (p:=⟨gb+1,9,none⟩) (by simp) (.int .i64 (F:Int))).setCell (p:=⟨gb+1,10,none⟩) (by simp) (.int .i64 0)).setCell (p:=⟨gb+1,11,none⟩) (by simp) (.bool false));obtain⟨e0,e1,e2,e3,e4,e5,e6,e7,e8,e9,e10,e11⟩:=zah o.out;by_cases hn1:n<1
 .have e:(n:Int)<1:=by omega
  go_wp2_with fail;refine W6 (v:=.tuple #[.agg #[.bool date,.bool true,.bool false,.int .i64 Y,.int .i64 M,.int .i64 D,.int .i64 H,.int .i64 N0,.int .i64 C,.int .i64 (F:Int),.int .i64 0,.bool false],.int .i64 (-1)]) (by rw[W7 rfl];go_simp) rfl ?_;exact HGO.out _ _ _ _ (by rw[HGB.out];exact b.out) (.inl ⟨by obtain⟨h,m,c,d,_⟩:=k.out;rw[d,if_pos (.inl hn1)],rfl⟩)
 .have e:¬(n:Int)<1:=by omega
  by_cases hn9:9<n
  .have g:(9:Int)<(n:Int):=by omega
   go_wp2_with fail;refine W6 (v:=.tuple #[.agg #[.bool date,.bool true,.bool false,.int .i64 Y,.int .i64 M,.int .i64 D,.int .i64 H,.int .i64 N0,.int .i64 C,.int .i64 (F:Int),.int .i64 0,.bool false],.int .i64 (-1)]) (by rw[W7 rfl];go_simp) rfl ?_;exact HGO.out _ _ _ _ (by rw[HGB.out];exact b.out) (.inl ⟨by obtain⟨h,m,c,d,_⟩:=k.out;rw[d,if_pos (.inr hn9)],rfl⟩)
  .have g:¬(9:Int)<(n:Int):=by omega
   go_wp2_with fail;refine W6 (v:=.tuple #[.agg #[.bool date,.bool true,.bool false,.int .i64 Y,.int .i64 M,.int .i64 D,.int .i64 H,.int .i64 N0,.int .i64 C,.int .i64 (F:Int),.int .i64 0,.bool false],.int .i64 ((a:Int)+8+1+(n:Int))]) (by rw[W7 rfl];go_simp) rfl ?_;refine HGO.out _ _ _ _ (by rw[HGB.out];exact b.out) (.inr ?_);obtain⟨h,m,c,d,h2,i,l⟩:=k.out;exact⟨h,m,c,F,a+9+n,by rw[d,if_neg (by omega)],by omega,rfl,h2,i,l,rfl⟩
theorem znl (s:Q0) (hl:s.length<=1073741823) (a:Nat) (ha:a<=1073741824) (date:Bool) (Y M D H N0 C:Int) (w wy:World) (gb:Nat)
 (HGO:Hid (∀(r:Int) (ok:Bool) (n:Int) (w':World),Below w.heap.size w w'->(clockAt s a=none/\r=-1\/∃h m c f t:Nat,clockAt s a=some ⟨h,m,c,f,t⟩/\r=(t:Int)/\ok=true/\H=h/\N0=m/\C=c/\n=f)->zbj s a date Y M D w (.returned (.tuple #[.agg #[.bool date,.bool ok,.bool false,.int .i64 Y,.int .i64 M,.int .i64 D,.int .i64 H,.int .i64 N0,.int .i64 C,.int .i64 n,.int .i64 0,.bool false],.int .i64 r])) w'))
 (HF:Hid (∃h m c:Nat,numAt s a 2=some h/\numAt s (a+3) 2=some m/\numAt s (a+6) 2=some c/\H=h/\N0=m/\C=c)) (HP:Hid (isAt s (a+2) 58=true/\isAt s (a+5) 58=true/\isAt s (a+8) 46=true))
 (HA8:Hid (a+9<=s.length)) (HGB:Hid (w.heap.size=gb)) (HB:Hid (Blk wy gb 164 (T12 date true false Y M D H N0 C 0 0 false)/\Blk wy (gb+1) 164 (T12 false false false 0 0 0 0 0 0 0 0 false)/\Below gb w wy))
 {u2 u3 u4 u7 u8 u9 u10 u11 u12 u13 u14 u15 u16 u17 u18 u19 u20 u21 u22 u23 u24 u25 u26 u27 u28 u29 u30 u31 u32 u33 u34 u35 u36 u37 u38 u39 u40 u41 u42 u43 u44 u45 u46 u47 u48 u49 u50 u51 u52 u53 u54 u55 u56 u57 u58 u59 u60 u61 u62 u63 u64 u65 u66 u67 u68 u69 u70 u71 u72 u73 u74 u75 u76 u77 u78 u79 u80 u81 u82 u83 u84 u85 u86 u87 u88 u89 u90 u91 u92 u93 u94 u95 u96 u97 u98 u99 u100 u101 u102 u103 u104 u105 u106 u107 u108 u109 u110 u111 u112 u113 u114 u115:Value}:
 Code.wp prog (tl 6 (f185.body.getD .skip)) (bodyPost prog f185 (zbj s a date Y M D w)) {tmps:=Q6 (.string ⟨s.toArray⟩::.int .i64 ((a:Int)+8)::u2::u3::u4::.pointer (some ⟨gb,0,none⟩)::.pointer (some ⟨gb+1,0,none⟩)::u7::u8::u9::u10::u11::u12::u13::u14::u15::u16::u17::u18::u19::u20::u21::u22::u23::u24::u25::u26::u27::u28::u29::u30::u31::u32::u33::u34::u35::u36::u37::u38::u39::u40::u41::u42::u43::u44::u45::u46::u47::u48::u49::u50::u51::u52::u53::u54::u55::u56::u57::u58::u59::u60::u61::u62::u63::u64::u65::u66::u67::u68::u69::u70::u71::u72::u73::u74::u75::u76::u77::u78::u79::u80::u81::u82::u83::u84::u85::u86::u87::u88::u89::u90::u91::u92::u93::u94::u95::u96::u97::u98::u99::u100::u101::u102::u103::u104::u105::u106::u107::u108::u109::u110::u111::u112::u113::u114::u115::[]),defers:=[]} wy:=by
 generalize hc0:tl 6 (f185.body.getD .skip)=c0;simp only[tl,f185,Q3]at hc0;subst hc0;have ha0:(0:Int)<=(a:Int):=by omega
 go_upto_block 0 with fail;go_cut [8] (fun s8 I=>∃n F:Nat,s8=.int .i64 (n:Int)/\n<=s.length/\F<=999999999/\Hid ((∀h2:a+9+n<s.length,K8 (s[a+9+n]'h2)=false)/\Frac s (a+9) n F (fracU n)/\Blk I gb 164 (T12 date true false Y M D H N0 C (F:Int) 0 false)/\Blk I (gb+1) 164 (T12 false false false 0 0 0 0 0 0 0 0 false)/\Below gb w I))
 case first=>
  go_wp2_with fail;go_loopw [8,9] (fun s8 s9 wr=>∃n F U:Nat,s8=.int .i64 (n:Int)/\s9=.int .i64 (U:Int)/\n<=s.length/\F<=999999999/\U<=100000000/\Hid (Frac s (a+9) n F U/\Blk wr gb 164 (T12 date true false Y M D H N0 C (F:Int) 0 false)/\Blk wr (gb+1) 164 (T12 false false false 0 0 0 0 0 0 0 0 false)/\Below gb w wr)) (fun s8 _ _=>s.length-(intOf s8).toNat)
  case atStart=>exact⟨0,0,100000000,rfl,rfl,by omega,by omega,by omega,hid ⟨Frac.start HA8.out,HB.out.1,HB.out.2.1,HB.out.2.2⟩⟩
  case round=>
   obtain⟨n,F,U,rfl,rfl,A,z,R,d⟩:=hrel;by_cases hlt:a+9+n<s.length
   .have q:(a:Int)+8+1+(n:Int)<(s.length:Int):=by omega
    have hidx:((a:Int)+8+1+(n:Int)).toNat=a+9+n:=by omega
    obtain⟨b,E⟩:∃b:Nat,(s[a+9+n]'hlt).toNat=b:=⟨_,rfl⟩
    have hbv:(((⟨s.toArray⟩:ByteArray)[a+9+n]'(by simpa[ByteArray.size]using hlt)).toNat:Int)=(b:Int):=by rw[<-E];rfl
    have hbl:b<256:=by rw[<-E];exact(s[a+9+n]'hlt).toNat_lt
    have o:=hid (zd6 (s[a+9+n]'hlt) b E);clear E;by_cases hd:48<=b/\b<=57
    .obtain⟨e,K⟩:=hd;have v:(48:Int)<=(b:Int):=by omega
     have P:(b:Int)<=57:=by omega
     obtain⟨x,Q⟩:∃x:Nat,b-48=x:=⟨_,rfl⟩
     have hxi:(b:Int)-48=(x:Int):=by omega
     have N:x<=9:=by omega
     have l:Hid (Frac s (a+9) (n+1) (F+U*x) (U /10)):=hid (by
      have:=d.out.1.next hlt (by rw[o.out.1];simp[e,K]);rwa[o.out.2,Q]at this)
     have HX:=hid Q;clear Q;have y:F+U*x<=999999999:=l.out.hi;obtain⟨G,B⟩:∃G:Nat,F+U*x=G:=⟨_,rfl⟩
     have L:(F:Int)+(U:Int)*(x:Int)=(G:Int):=by rw[<-B];simp
     have O:U*x<=900000000:=K7 (Nat.mul_le_mul R N) (by omega);have hm0:(0:Int)<=(U:Int)*(x:Int):=by rw[<-W0];omega
     have hm1:(U:Int)*(x:Int)<=900000000:=by rw[<-W0];omega
     rw[B]at l y;have HG:=hid B;clear B O;have w1:IntKind.i64.wrap ((a:Int)+8+1)=(a:Int)+8+1:=K5 _ (by omega);have w2:IntKind.i64.wrap ((a:Int)+8+1+(n:Int))=(a:Int)+8+1+(n:Int):=K5 _ (by omega);have w3:IntKind.i64.wrap ((U:Int)*(x:Int))=(U:Int)*(x:Int):=K5 _ (by omega);have w4:IntKind.i64.wrap ((F:Int)+(U:Int)*(x:Int))=(G:Int):=by rw[L];exact K5 _ (by omega)
     have i0:(0:Int)<=(a:Int)+8+1+(n:Int):=by omega
     go_wp2_with fail;have S:∀W:WB wr.heap.size wr,W.w.cell? ⟨gb,9,none⟩=some (.int .i64 (F:Int)):=fun W=>(W.h.cell (p:=⟨gb,9,none⟩) d.out.2.1.lt).trans (d.out.2.1.cell 9)
     refine zbw 14 wr.heap.size wr (by kernel_rfl) (by kernel_rfl) (K2 _ _) ?_;simp only[List.take_succ_cons,List.take_zero,V4,U4]
     iterate 14 (go_big_quiet_step (fail))
     refine wpQuiet_nil ?_;rintro _ ⟨k,rfl⟩;have i:=d.out.2.1.below k.h d.out.2.1.lt;have q9:k.w.cell? ⟨gb,9,none⟩=some (.int .i64 (F:Int)):=i.cell 9;have qf:∀j,k.w.frozen? ⟨gb,j,none⟩=false:=i.frozen;have J:Hid (Blk (k.w.setCell ⟨gb,9,none⟩ (.int .i64 (G:Int))) gb 164 (T12 date true false Y M D H N0 C (G:Int) 0 false)/\Blk (k.w.setCell ⟨gb,9,none⟩ (.int .i64 (G:Int))) (gb+1) 164 (T12 false false false 0 0 0 0 0 0 0 0 false)/\Below gb w (k.w.setCell ⟨gb,9,none⟩ (.int .i64 (G:Int)))):=hid ⟨i.set_ 9 _,(d.out.2.2.1.below k.h d.out.2.2.1.lt).far (Q7 gb) _,(d.out.2.2.2.trans (k.h.mono (U8 d.out.2.1.lt))).setCell (p:=⟨gb,9,none⟩) (by simp) _⟩;clear i S;go_wp2;go_roundw
     case rel=>exact⟨n+1,G,U /10,by go_num,by exact congrArg (Value.int .i64) (by omega),by omega,y,by omega,hid ⟨l.out,J.out⟩⟩
     case measure=>simp[intOf];omega
    .have g:Hid (∀h2:a+9+n<s.length,K8 (s[a+9+n]'h2)=false):=hid (fun h2=>by rw[o.out.1];by_cases e:48<=b<;>simp[e]<;>omega);by_cases e:48<=b
     .have v:(48:Int)<=(b:Int):=by omega
      have P:¬(b:Int)<=57:=by omega
      go_wp2;go_meet;exact⟨n,F,rfl,A,z,hid ⟨g.out,by rw[<-d.out.1.u];exact d.out⟩⟩
     .have v:¬(48:Int)<=(b:Int):=by omega
      go_wp2;go_meet;exact⟨n,F,rfl,A,z,hid ⟨g.out,by rw[<-d.out.1.u];exact d.out⟩⟩
   .have g:Hid (∀h2:a+9+n<s.length,K8 (s[a+9+n]'h2)=false):=hid (fun h2=>absurd h2 hlt);have q:¬(a:Int)+8+1+(n:Int)<(s.length:Int):=by omega
    go_wp2;go_meet;exact⟨n,F,rfl,A,z,hid ⟨g.out,by rw[<-d.out.1.u];exact d.out⟩⟩
 case rest=>
  obtain⟨n,F,rfl,A,z,d⟩:=hcut;refine(‹∀(a:Act) (w_1:World),Code.wp prog _ _ a w_1->_›) _ _ ?_;exact znk s hl a ha date Y M D H N0 C w _ gb HGO HF HP HGB n F (fracU n) A z d
theorem zq3 (s:Q0) (hl:s.length<=1073741823) (a:Nat) (ha:a<=1073741824) (date:Bool) (Y M D H N0 C:Int) (z:Bool) (w wy:World) (gb:Nat)
 (HGO:Hid (∀(r:Int) (ok:Bool) (n:Int) (w':World),Below w.heap.size w w'->(clockAt s a=none/\r=-1\/∃h m c f t:Nat,clockAt s a=some ⟨h,m,c,f,t⟩/\r=(t:Int)/\ok=true/\H=h/\N0=m/\C=c/\n=f)->zbj s a date Y M D w (.returned (.tuple #[.agg #[.bool date,.bool ok,.bool false,.int .i64 Y,.int .i64 M,.int .i64 D,.int .i64 H,.int .i64 N0,.int .i64 C,.int .i64 n,.int .i64 0,.bool false],.int .i64 r])) w'))
 (HF:Hid (∃h m c:Nat,numAt s a 2=some h/\numAt s (a+3) 2=some m/\numAt s (a+6) 2=some c/\H=h/\N0=m/\C=c)) (HP:Hid (isAt s (a+2) 58=true/\isAt s (a+5) 58=true/\isAt s (a+8) 46=z))
 (HI3:Hid (∀W,Calls prog 186 #[.string ⟨s.toArray⟩,.int .i64 ((a:Int)+8),.int .u8 46] W fun e w'=>e=.returned (.bool z)/\W=w'))
 (HGB:Hid (w.heap.size=gb)) (HB:Hid (Blk wy gb 164 (T12 date true false Y M D H N0 C 0 0 false)/\Blk wy (gb+1) 164 (T12 false false false 0 0 0 0 0 0 0 0 false)/\Below gb w wy))
 {u2 u3 u4 u7 u8 u9 u10 u11 u12 u13 u14 u15 u16 u17 u18 u19 u20 u21 u22 u23 u24 u25 u26 u27 u28 u29 u30 u31 u32 u33 u34 u35 u36 u37 u38 u39 u40 u41 u42 u43 u44 u45 u46 u47 u48 u49 u50 u51 u52 u53 u54 u55 u56 u57 u58 u59 u60 u61 u62 u63 u64 u65 u66 u67 u68 u69 u70 u71 u72 u73 u74 u75 u76 u77 u78 u79 u80 u81 u82 u83 u84 u85 u86 u87 u88 u89 u90 u91 u92 u93 u94 u95 u96 u97 u98 u99 u100 u101 u102 u103 u104 u105 u106 u107 u108 u109 u110 u111 u112 u113 u114 u115:Value}:
 Code.wp prog (tl 5 (f185.body.getD .skip)) (bodyPost prog f185 (zbj s a date Y M D w)) {tmps:=Q6 (.string ⟨s.toArray⟩::.int .i64 ((a:Int)+8)::u2::u3::u4::.pointer (some ⟨gb,0,none⟩)::.pointer (some ⟨gb+1,0,none⟩)::u7::u8::u9::u10::u11::u12::u13::u14::u15::u16::u17::u18::u19::u20::u21::u22::u23::u24::u25::u26::u27::u28::u29::u30::u31::u32::u33::u34::u35::u36::u37::u38::u39::u40::u41::u42::u43::u44::u45::u46::u47::u48::u49::u50::u51::u52::u53::u54::u55::u56::u57::u58::u59::u60::u61::u62::u63::u64::u65::u66::u67::u68::u69::u70::u71::u72::u73::u74::u75::u76::u77::u78::u79::u80::u81::u82::u83::u84::u85::u86::u87::u88::u89::u90::u91::u92::u93::u94::u95::u96::u97::u98::u99::u100::u101::u102::u103::u104::u105::u106::u107::u108::u109::u110::u111::u112::u113::u114::u115::[]),defers:=[]} wy:=by
 generalize hc0:tl 5 (f185.body.getD .skip)=c0;simp only[tl,f185,Q3]at hc0;subst hc0;go_upto_region 6 with fail;go_cut [58] (fun s58 i=>s58=.bool (!z)/\i=wy)
 case first=>
  go_wp2_with fail;refine(HI3.out _).mono ?_;rintro e w1 ⟨rfl,rfl⟩;go_wp2;go_meet;exact⟨rfl,rfl⟩
 case rest=>
 obtain⟨rfl,rfl⟩:=hcut;refine(‹∀(a:Act) (w_1:World),Code.wp prog _ _ a w_1->_›) _ _ ?_;go_cut [] (fun k=>z=true/\k=wc)
 case first=>
  obtain⟨q0,q1,q2,q3,q4,q5,q6,q7,q8,q9,q10,q11⟩:=zah HB.out.1;have xb:∀j,wc.cell? ⟨gb+1,j,none⟩=(#[.bool false,.bool false,.bool false,.int .i64 0,.int .i64 0,.int .i64 0,.int .i64 0,.int .i64 0,.int .i64 0,.int .i64 0,.int .i64 0,.bool false]:Array Value)[j]? :=fun j=>HB.out.2.1.cell j
  have xf:∀j,wc.frozen? ⟨gb+1,j,none⟩=false:=HB.out.2.1.frozen;cases z with
  |false=>
   go_wp2_with fail;have g:Hid (Blk ((((((((((((wc.setCell ⟨gb+1,0,none⟩ (.bool date)).setCell ⟨gb+1,1,none⟩ (.bool true)).setCell ⟨gb+1,2,none⟩ (.bool false)).setCell ⟨gb+1,3,none⟩ (.int .i64 Y)).setCell ⟨gb+1,4,none⟩ (.int .i64 M)).setCell ⟨gb+1,5,none⟩ (.int .i64 D)).setCell ⟨gb+1,6,none⟩ (.int .i64 H)).setCell ⟨gb+1,7,none⟩ (.int .i64 N0)).setCell ⟨gb+1,8,none⟩ (.int .i64 C)).setCell ⟨gb+1,9,none⟩ (.int .i64 0)).setCell ⟨gb+1,10,none⟩ (.int .i64 0)).setCell ⟨gb+1,11,none⟩ (.bool false)) (gb+1) 164 (T12 date true false Y M D H N0 C 0 0 false)):=Q9 (zbf HB.out.2.1);have b:Hid (Below gb w ((((((((((((wc.setCell ⟨gb+1,0,none⟩ (.bool date)).setCell ⟨gb+1,1,none⟩ (.bool true)).setCell ⟨gb+1,2,none⟩ (.bool false)).setCell ⟨gb+1,3,none⟩ (.int .i64 Y)).setCell ⟨gb+1,4,none⟩ (.int .i64 M)).setCell ⟨gb+1,5,none⟩ (.int .i64 D)).setCell ⟨gb+1,6,none⟩ (.int .i64 H)).setCell ⟨gb+1,7,none⟩ (.int .i64 N0)).setCell ⟨gb+1,8,none⟩ (.int .i64 C)).setCell ⟨gb+1,9,none⟩ (.int .i64 0)).setCell ⟨gb+1,10,none⟩ (.int .i64 0)).setCell ⟨gb+1,11,none⟩ (.bool false))):=Q9 (zce HB.out.2.2 (Nat.le_succ gb));obtain⟨e0,e1,e2,e3,e4,e5,e6,e7,e8,e9,e10,e11⟩:=zah g.out;refine W6 (v:=.tuple #[.agg #[.bool date,.bool true,.bool false,.int .i64 Y,.int .i64 M,.int .i64 D,.int .i64 H,.int .i64 N0,.int .i64 C,.int .i64 0,.int .i64 0,.bool false],.int .i64 ((a:Int)+8)]) (by rw[W7 rfl];go_simp) rfl ?_;refine HGO.out _ _ _ _ (by rw[HGB.out];exact b.out) (.inr ?_);obtain⟨h,m,c,x,l,p,u,o,q⟩:=HF.out;exact⟨h,m,c,0,a+8,zks x l p HP.out.1 HP.out.2.1 HP.out.2.2,by omega,rfl,u,o,q,rfl⟩
  |true=>
   go_wp2;go_meet
   first|exact⟨rfl,rfl⟩|exact⟨trivial,rfl⟩
 case rest=>
  obtain⟨rfl,rfl⟩:=hcut;have d:Hid (a+9<=s.length):=Q9 (by
   have:=HP.out.2.2;unfold isAt at this;rcases X3 (a+8) s.length with h|h
   .omega
   .rw[List.getElem?_eq_none h]at this;cases this)
  refine(‹∀(a:Act) (w_1:World),Code.wp prog _ _ a w_1->_›) _ _ ?_;exact znl s hl a ha date Y M D H N0 C w _ gb HGO HF HP d HGB HB
def OfPost (Z nanos:Int) (w:World) (e:Ending) (w':World):Prop:=∃y m d:Int,Cal.vld y m d=true/\Cal.num y m d=Z /86400-719528/\e=.returned (.agg #[.bool true,.bool true,.bool true,.int .i64 y,.int .i64 m,.int .i64 d,.int .i64 (Z%86400 /3600),.int .i64 (Z%86400 /60%60),.int .i64 (Z%86400%60),.int .i64 nanos,.int .i64 0,.bool false])/\Below w.heap.size w w'
theorem zxk (S Z nanos:Int) (hz:S- -62167219200=Z) (h0:0<=Z) (h1:Z<=315569519999) (w:World):
 Calls prog 183 #[.int .i64 S,.int .i64 nanos] w (OfPost Z nanos w):=by
 have hS0:-62167219200<=S:=by omega
 have hS1:S<=253402300799:=by omega
 obtain⟨N,hN⟩:=ex (Z /86400)
 obtain⟨R,hR⟩:=ex (Z%86400)
 have ae:0<=N:=by omega
 have hN1:N<=3652424:=by omega
 have hR0:0<=R:=by omega
 have hR1:R<=86399:=by omega
 have P:Hid (Z /86400=N/\Z%86400=R):=hid ⟨hN,hR⟩;have HD:Hid (∀y:Int,0<=y->y<=10000->∀W,Calls prog 201 #[.int .i64 y,.int .i64 1,.int .i64 1] W fun e i=>e=.returned (.int .i64 (Cal.fst y-719528))/\W=i):=hid (fun y a b W=>by
  have:=zje y 1 1 a (by omega) (by omega) (by omega) (by omega) (by omega) W;rwa[show Cal.num y 1 1=Cal.fst y-719528 from by unfold Cal.num;rw[Cal.zz2];omega]at this)
 go_enter func183,ntmps183;go_upto_region 5 with fail;obtain⟨c,u⟩:=ex w.heap.size
 obtain⟨E,z⟩:∃E,E=(w.alloc (.cells #[.bool false,.bool false,.bool false,.int .i64 0,.int .i64 0,.int .i64 0,.int .i64 0,.int .i64 0,.int .i64 0,.int .i64 0,.int .i64 0,.bool false] 164)).alloc (.cells #[.bool true,.bool true,.bool true,.int .i64 0,.int .i64 0,.int .i64 0,.int .i64 (R /3600),.int .i64 (R /60%60),.int .i64 (R%60),.int .i64 nanos,.int .i64 0,.bool false] 164):=⟨_,rfl⟩
 have l:Hid (Blk E (c+1) 164 (T12 true true true 0 0 0 (R /3600) (R /60%60) (R%60) nanos 0 false)/\Blk E c 164 (T12 false false false 0 0 0 0 0 0 0 0 false)/\Below c w E):=hid (by
  rw[z,<-u];refine⟨?_,(Q5 _ _ _).alloc _,zbz _ _⟩;have:=Q5 (w.alloc (.cells #[.bool false,.bool false,.bool false,.int .i64 0,.int .i64 0,.int .i64 0,.int .i64 0,.int .i64 0,.int .i64 0,.int .i64 0,.int .i64 0,.bool false] 164)) 164 (T12 true true true 0 0 0 (R /3600) (R /60%60) (R%60) nanos 0 false);rwa[K6]at this)
 have ac:=hid u;(try rw[<-z]);(try rw[u]);rw[hN,hR];clear z u hN hR hz h0 h1;have F:E.cell? ⟨c+1,3,none⟩=some (.int .i64 0):=l.out.1.cell 3;have M:∀j,E.frozen? ⟨c+1,j,none⟩=false:=l.out.1.frozen;have ai:=hid (Cal.zy0 N ae);go_wp2_with fail;clear F M;go_loopw [35] (fun _ wr=>∃y:Int,0<=y/\y<=9999/\Hid (Cal.fst y<=N/\Blk wr (c+1) 164 (T12 true true true y 0 0 (R /3600) (R /60%60) (R%60) nanos 0 false)/\Blk wr c 164 (T12 false false false 0 0 0 0 0 0 0 0 false)/\Below c w wr)) (fun _ wr=>match wr.cell? ⟨c+1,3,none⟩with|some (.int _ n)=>10000-n.toNat|_=>0)
 case atStart=>exact⟨N /366,by omega,by omega,hid ⟨ai.out,l.out.1.set_ 3 _,l.out.2.1.far (Q7 c).symm _,l.out.2.2.setCell (p:=⟨c+1,3,none⟩) (by simp) _⟩⟩
 case round=>
  obtain⟨r,aj⟩:∃r,r=wr:=⟨_,rfl⟩
  subst aj;obtain⟨y,H,an,o⟩:=hrel;have O:=Cal.zlq y H;have hl:=Cal.zyy y;have bd:=Cal.zyz y (by omega) (by omega);have X:=Cal.zyz (y+1) (by omega) (by omega);have J:Hid (Cal.fst (y+1)=Cal.fst y+365+Cal.lp y/\0<=Cal.lp y/\Cal.lp y<=1):=hid ⟨O,hl⟩;obtain⟨K,t⟩:=ex (Cal.fst (y+1))
  obtain⟨x,s⟩:=ex (Cal.fst y)
  have f:Hid (Cal.fst (y+1)=K/\Cal.fst y=x):=hid ⟨t,s⟩;have I:Hid (∀W,Calls prog 201 #[.int .i64 (y+1),.int .i64 1,.int .i64 1] W fun e i=>e=.returned (.int .i64 (K-719528))/\W=i):=hid (fun W=>by rw[<-t];exact HD.out (y+1) (by omega) (by omega) W);have Y:Hid (∀W,Calls prog 201 #[.int .i64 y,.int .i64 1,.int .i64 1] W fun e i=>e=.returned (.int .i64 (x-719528))/\W=i):=hid (fun W=>by rw[<-s];exact HD.out y (by omega) (by omega) W);rw[t]at X;rw[s]at bd;clear O hl t s;have F:r.cell? ⟨c+1,3,none⟩=some (.int .i64 y):=o.out.2.1.cell 3;have U:r.cell? ⟨c+1,4,none⟩=some (.int .i64 0):=o.out.2.1.cell 4;have M:∀j,r.frozen? ⟨c+1,j,none⟩=false:=o.out.2.1.frozen;have hNf:x<=N:=by have:=o.out.1;rw[f.out.2]at this;exact this
  by_cases hc:K<=N
  .have ak:K-719528<=N-719528:=by omega
   have hy4:y<9999:=by
    have:=Cal.zqf;by_cases e:y=9999
    .subst e;have h2:=f.out.1;rw[show(9999:Int)+1=10000 from rfl]at h2;omega
    .omega
   have k:Hid (Cal.fst (y+1)<=N/\Blk (r.setCell ⟨c+1,3,none⟩ (.int .i64 (y+1))) (c+1) 164 (T12 true true true (y+1) 0 0 (R /3600) (R /60%60) (R%60) nanos 0 false)/\Blk (r.setCell ⟨c+1,3,none⟩ (.int .i64 (y+1))) c 164 (T12 false false false 0 0 0 0 0 0 0 0 false)/\Below c w (r.setCell ⟨c+1,3,none⟩ (.int .i64 (y+1)))):=hid ⟨by rw[f.out.1];exact hc,o.out.2.1.set_ 3 _,o.out.2.2.1.far (Q7 c).symm _,o.out.2.2.2.setCell (p:=⟨c+1,3,none⟩) (by simp) _⟩;go_wp2_with fail;refine(I.out _).mono ?_;rintro e i ⟨rfl,rfl⟩;go_wp2_with fail;have af:(r.setCell ⟨c+1,3,none⟩ (.int .i64 (y+1))).cell? ⟨c+1,3,none⟩=some (.int .i64 (y+1)):=k.out.2.1.cell 3;go_roundw
   case rel=>exact⟨y+1,by omega,by omega,k⟩
   case measure=>rw[af,F];simp only;omega
  .have ak:¬K-719528<=N-719528:=by omega
   have hN2:N<x+366:=by have h1:=J.out;rw[f.out.1,f.out.2]at h1;omega
   have am:Hid (N<x+365+Cal.lp y):=hid (by have h1:=J.out;rw[f.out.1,f.out.2]at h1;omega);go_wp2_with fail;refine(I.out _).mono ?_;rintro e i ⟨rfl,rfl⟩;go_wp2_with fail;refine(Y.out _).mono ?_;rintro e i ⟨rfl,rfl⟩;go_wp2_with fail;clear F U M;go_loopw [6] (fun s6 wr=>∃m v:Int,1<=m/\m<=12/\0<=v/\v<=366/\s6=.int .i64 v/\Hid (v=N-x-Cal.cum y m/\Blk wr (c+1) 164 (T12 true true true y m 0 (R /3600) (R /60%60) (R%60) nanos 0 false)/\Blk wr c 164 (T12 false false false 0 0 0 0 0 0 0 0 false)/\Below c w wr)) (fun s6 wr=>match wr.cell? ⟨c+1,4,none⟩with|some (.int _ n)=>13-n.toNat|_=>0)
   case atStart=>exact⟨1,N-x,by omega,by omega,by omega,by omega,by exact congrArg (Value.int .i64) (by omega),hid ⟨by rw[Cal.zz2];omega,o.out.2.1.set_ 4 _,o.out.2.2.1.far (Q7 c).symm _,o.out.2.2.2.setCell (p:=⟨c+1,4,none⟩) (by simp) _⟩⟩
   case round=>
    obtain⟨g,V⟩:∃g,g=wr:=⟨_,rfl⟩
    subst V;obtain⟨m,v,A,B,hv0,hv1,rfl,d⟩:=hrel;have D:=Cal.zho y m A B;have ab:=Cal.zy1 y m;obtain⟨q,Q⟩:=ex (Cal.dim y m)
    have C:Hid (∀W,Calls prog 188 #[.int .i64 y,.int .i64 m] W fun e i=>e=.returned (.int .i64 q)/\W=i):=hid (fun W=>by rw[<-Q];exact zd8 y m A B W);rw[Q]at D ab;have G:=hid D;have HQ:=hid Q;clear D Q;have F:g.cell? ⟨c+1,3,none⟩=some (.int .i64 y):=d.out.2.1.cell 3;have U:g.cell? ⟨c+1,4,none⟩=some (.int .i64 m):=d.out.2.1.cell 4;have M:∀j,g.frozen? ⟨c+1,j,none⟩=false:=d.out.2.1.frozen;by_cases hd:q<=v
    .have hm4:m<12:=by
      by_cases e:m=12
      .subst e;have h1:=G.out;have h2:=am.out;have h3:=Cal.zy4 y;have h4:=d.out.1;rw[show(12:Int)+1=13 from rfl]at h1;omega
      .omega
     have k:Hid (v-q=N-x-Cal.cum y (m+1)/\Blk (g.setCell ⟨c+1,4,none⟩ (.int .i64 (m+1))) (c+1) 164 (T12 true true true y (m+1) 0 (R /3600) (R /60%60) (R%60) nanos 0 false)/\Blk (g.setCell ⟨c+1,4,none⟩ (.int .i64 (m+1))) c 164 (T12 false false false 0 0 0 0 0 0 0 0 false)/\Below c w (g.setCell ⟨c+1,4,none⟩ (.int .i64 (m+1)))):=hid ⟨by rw[G.out];have:=d.out.1;omega,d.out.2.1.set_ 4 _,d.out.2.2.1.far (Q7 c).symm _,d.out.2.2.2.setCell (p:=⟨c+1,4,none⟩) (by simp) _⟩;go_wp2_with fail;refine(C.out _).mono ?_;rintro e i ⟨rfl,rfl⟩;go_wp2_with fail;refine(C.out _).mono ?_;rintro e i ⟨rfl,rfl⟩;go_wp2_with fail;have aa:(g.setCell ⟨c+1,4,none⟩ (.int .i64 (m+1))).cell? ⟨c+1,4,none⟩=some (.int .i64 (m+1)):=k.out.2.1.cell 4;go_roundw
     case rel=>exact⟨m+1,v-q,by omega,by omega,by omega,by omega,rfl,k⟩
     case measure=>rw[aa,U];simp only;omega
    .have h:Hid (Blk (g.setCell ⟨c+1,5,none⟩ (.int .i64 (v+1))) (c+1) 164 (T12 true true true y m (v+1) (R /3600) (R /60%60) (R%60) nanos 0 false)/\Blk (g.setCell ⟨c+1,5,none⟩ (.int .i64 (v+1))) c 164 (T12 false false false 0 0 0 0 0 0 0 0 false)/\Below c w (g.setCell ⟨c+1,5,none⟩ (.int .i64 (v+1)))):=hid ⟨d.out.2.1.set_ 5 _,d.out.2.2.1.far (Q7 c).symm _,d.out.2.2.2.setCell (p:=⟨c+1,5,none⟩) (by simp) _⟩;have q5:g.cell? ⟨c+1,5,none⟩=some (.int .i64 0):=d.out.2.1.cell 5;go_wp2_with fail;refine(C.out _).mono ?_;rintro e i ⟨rfl,rfl⟩;go_upto_region 14 with fail;obtain⟨T,L⟩:=ex (g.setCell ⟨c+1,5,none⟩ (.int .i64 (v+1)))
     rw[L]at h ⊢;clear L F U q5 M;obtain⟨a0,a1,a2,a3,a4,a5,a6,a7,a8,a9,a10,a11⟩:=zah h.out.1;have xb:∀j,T.cell? ⟨c,j,none⟩=(#[.bool false,.bool false,.bool false,.int .i64 0,.int .i64 0,.int .i64 0,.int .i64 0,.int .i64 0,.int .i64 0,.int .i64 0,.int .i64 0,.bool false]:Array Value)[j]? :=fun j=>h.out.2.1.cell j
     have xf:∀j,T.frozen? ⟨c,j,none⟩=false:=h.out.2.1.frozen;go_wp2_with fail;have ad:Blk ((((((((((((T.setCell ⟨c,0,none⟩ (.bool true)).setCell ⟨c,1,none⟩ (.bool true)).setCell ⟨c,2,none⟩ (.bool true)).setCell ⟨c,3,none⟩ (.int .i64 y)).setCell ⟨c,4,none⟩ (.int .i64 m)).setCell ⟨c,5,none⟩ (.int .i64 (v+1))).setCell ⟨c,6,none⟩ (.int .i64 (R /3600))).setCell ⟨c,7,none⟩ (.int .i64 (R /60%60))).setCell ⟨c,8,none⟩ (.int .i64 (R%60))).setCell ⟨c,9,none⟩ (.int .i64 nanos)).setCell ⟨c,10,none⟩ (.int .i64 0)).setCell ⟨c,11,none⟩ (.bool false)) c 164 (T12 true true true y m (v+1) (R /3600) (R /60%60) (R%60) nanos 0 false):=zbf h.out.2.1;have al:Below c w ((((((((((((T.setCell ⟨c,0,none⟩ (.bool true)).setCell ⟨c,1,none⟩ (.bool true)).setCell ⟨c,2,none⟩ (.bool true)).setCell ⟨c,3,none⟩ (.int .i64 y)).setCell ⟨c,4,none⟩ (.int .i64 m)).setCell ⟨c,5,none⟩ (.int .i64 (v+1))).setCell ⟨c,6,none⟩ (.int .i64 (R /3600))).setCell ⟨c,7,none⟩ (.int .i64 (R /60%60))).setCell ⟨c,8,none⟩ (.int .i64 (R%60))).setCell ⟨c,9,none⟩ (.int .i64 nanos)).setCell ⟨c,10,none⟩ (.int .i64 0)).setCell ⟨c,11,none⟩ (.bool false)):=zce h.out.2.2 (K3 c);obtain⟨e0,e1,e2,e3,e4,e5,e6,e7,e8,e9,ag,ah⟩:=zah ad;refine W6 (v:=.agg #[.bool true,.bool true,.bool true,.int .i64 y,.int .i64 m,.int .i64 (v+1),.int .i64 (R /3600),.int .i64 (R /60%60),.int .i64 (R%60),.int .i64 nanos,.int .i64 0,.bool false]) (by simp[results,results183,go_sem,e0,e1,e2,e3,e4,e5,e6,e7,e8,e9,ag,ah]) rfl ?_;unfold OfPost;rw[P.out.1,P.out.2,ac.out];exact⟨y,m,v+1,Cal.z0g ⟨H,an,A,B,by omega,by rw[HQ.out];omega⟩,by unfold Cal.num;rw[f.out.2];have:=d.out.1;omega,rfl,al⟩
theorem zjl (date time zone:Bool) (y m d h mi c nanos off:Int) (late:Bool) (h0:0<=y) (h1:y<=9999) (h2:1<=m) (h3:m<=12) (h4:0<=d) (h5:d<=1000) (h6:0<=h) (h7:h<=1000) (h8:0<=mi) (h9:mi<=1000) (h10:0<=c) (h11:c<=1000) (h12:-1000000<=off) (h13:off<=1000000) (w:World):
 Calls prog 182 #[.agg #[.bool date,.bool time,.bool zone,.int .i64 y,.int .i64 m,.int .i64 d,.int .i64 h,.int .i64 mi,.int .i64 c,.int .i64 nanos,.int .i64 off,.bool late]] w fun e w'=>e=.returned (.int .i64 (86400*Cal.num y m d+3600*h+60*mi+c-off))/\Below w.heap.size w w':=by
 have t:=Q9 (fun W=>zje y m d h0 (by omega) h2 h3 h4 h5 W);have k:=Cal.zyz y h0 (by omega);have o:=Cal.zy3 y m;have j:-800000<=Cal.num y m d:=by unfold Cal.num;omega
 have l:Cal.num y m d<=4000000:=by unfold Cal.num;omega
 obtain⟨q,s⟩:=ex (Cal.num y m d)
 rw[s]at t j l ⊢;clear k o s;go_enter func182,ntmps182;go_upto_region 1 with fail;obtain⟨f,g⟩:=ex w.heap.size
 obtain⟨b,i⟩:∃b,b=w.alloc (.cells #[.bool date,.bool time,.bool zone,.int .i64 y,.int .i64 m,.int .i64 d,.int .i64 h,.int .i64 mi,.int .i64 c,.int .i64 nanos,.int .i64 off,.bool late] 164):=⟨_,rfl⟩
 have a:Hid (Blk b f 164 (T12 date time zone y m d h mi c nanos off late)/\Below f w b):=Q9 (by rw[i,<-g];exact⟨Q5 _ _ _,(K2 _ _).alloc (K3 _) _⟩);have r:=Q9 g;(try rw[<-i]);(try rw[g]);clear i g;have C:∀W:WB b.heap.size b,W.w.cell? ⟨f,3,none⟩=some (.int .i64 y):=fun W=>(W.h.cell (p:=⟨f,3,none⟩) a.out.1.lt).trans (a.out.1.cell 3)
 have z:∀W:WB b.heap.size b,W.w.cell? ⟨f,4,none⟩=some (.int .i64 m):=fun W=>(W.h.cell (p:=⟨f,4,none⟩) a.out.1.lt).trans (a.out.1.cell 4)
 have A:∀W:WB b.heap.size b,W.w.cell? ⟨f,5,none⟩=some (.int .i64 d):=fun W=>(W.h.cell (p:=⟨f,5,none⟩) a.out.1.lt).trans (a.out.1.cell 5)
 have x:∀W:WB b.heap.size b,W.w.cell? ⟨f,6,none⟩=some (.int .i64 h):=fun W=>(W.h.cell (p:=⟨f,6,none⟩) a.out.1.lt).trans (a.out.1.cell 6)
 have v:∀W:WB b.heap.size b,W.w.cell? ⟨f,7,none⟩=some (.int .i64 mi):=fun W=>(W.h.cell (p:=⟨f,7,none⟩) a.out.1.lt).trans (a.out.1.cell 7)
 have D:∀W:WB b.heap.size b,W.w.cell? ⟨f,8,none⟩=some (.int .i64 c):=fun W=>(W.h.cell (p:=⟨f,8,none⟩) a.out.1.lt).trans (a.out.1.cell 8)
 have n:∀W:WB b.heap.size b,W.w.cell? ⟨f,10,none⟩=some (.int .i64 off):=fun W=>(W.h.cell (p:=⟨f,10,none⟩) a.out.1.lt).trans (a.out.1.cell 10)
 have x1:IntKind.i64.wrap (86400*q)=86400*q:=K5 _ (by omega);have x2:IntKind.i64.wrap (3600*h)=3600*h:=K5 _ (by omega);have x3:IntKind.i64.wrap (86400*q+3600*h)=86400*q+3600*h:=K5 _ (by omega);have x4:IntKind.i64.wrap (60*mi)=60*mi:=K5 _ (by omega);have x5:IntKind.i64.wrap (86400*q+3600*h+60*mi)=86400*q+3600*h+60*mi:=K5 _ (by omega);have x6:IntKind.i64.wrap (86400*q+3600*h+60*mi+c)=86400*q+3600*h+60*mi+c:=K5 _ (by omega);have x7:IntKind.i64.wrap (86400*q+3600*h+60*mi+c-off)=86400*q+3600*h+60*mi+c-off:=K5 _ (by omega);refine zac b.heap.size b (by kernel_rfl) (by kernel_rfl) (K2 _ _) ?_
 iterate 23 (try go_big_quiet_step ((with_reducible refine Y9 ((t.out _).mono (fun _ _ ⟨B,E⟩=>⟨B,E▸WB.h _⟩)))))
 refine wpQuiet_nil ?_;rintro _ ⟨u,rfl⟩;clear C z A x v D n;go_wp2;go_ret;rw[r.out];exact⟨rfl,a.out.2.trans (u.h.mono (U8 a.out.1.lt))⟩
theorem zwu (s:Q0) (a:Nat) (ha:a=if s.head?=some 45 then 1 else 0):intB s=if a=s.length\/s.length-a>400\/((s.drop a).head?=some 48/\s.length>1)then false else(s.drop a).all K8:=by
 cases s with
 |nil=>subst ha;decide
 |cons c r=>
  by_cases hc:c=45
  .subst hc;obtain rfl:a=1:=by rw[ha];rfl
   cases r with
   |nil=>decide
   |cons d r=>
    have e:intS (45::d::r)=d::r:=by unfold intS;rw[if_pos ⟨by simp,rfl⟩];rfl
    unfold intB;rw[e];simp only[V4,U4];by_cases h:(d::r).length>400\/((d::r).head?=some 48/\(45::d::r).length>1)
    .rw[if_pos (.inr h),if_pos (.inr (h.imp (fun h=>by simpa using h) id))]
    .rw[if_neg (by rintro(h1|h1);simp at h1;exact h h1),if_neg (by rintro(h1|h1);simp at h1;exact h (h1.imp (fun h=>by simpa using h) id))]
  .obtain rfl:a=0:=by rw[ha,if_neg (by simp[hc])]
   have e:intS (c::r)=c::r:=by unfold intS;rw[if_neg (by simp[hc])]
   unfold intB;rw[e,U4];by_cases h:(c::r).length>400\/((c::r).head?=some 48/\(c::r).length>1)
   .rw[if_pos (.inr h),if_pos (.inr (by simpa using h))]
   .rw[if_neg (by rintro(h1|h1);simp at h1;exact h h1),if_neg (by rintro(h1|h1);simp at h1;exact h (by simpa using h1))]
theorem zll (c:UInt8) (b:Nat) (hb:c.toNat=b):K8 c=(decide (48<=b) && decide (b<=57)):=by
 subst hb;unfold K8;rw[U1];simp[UInt8.le_iff_toNat_le]
theorem all_at {s:Q0} {a k:Nat} (h:k<s.length) (hak:a<=k) (hd:K8 s[k]=false):(s.drop a).all K8=false:=by
 rw[List.all_eq_false];refine⟨s[k],?_,by rw[hd];decide⟩;have:s[k]=(s.drop a)[k-a]'(by rw[Y1];omega):=by rw[X1];congr 1;omega
 rw[this];exact Q4 _
theorem zfm (s:Q0) (hl:s.length<=1073741823) (a:Nat) (ha:a<=s.length) (w:World) (r:Bool) (hr:Hid ((s.drop a).all K8=r)) {u1 u2 u4 u5 u6 u7 u8 u9 u10 u11 u12 u13 u14 u15 u16 u17 u18 u19 u20 u21 u22 u23 u24 u25 u26 u27 u28 u29 u30 u31 u32 u33 u34 u35 u36 u37 u38 u39 u40 u41 u42 u43 u44 u45 u46 u47 u48 u49 u50 u51:Value}:
 Code.wp prog (tl 4 (f91.body.getD .skip)) (bodyPost prog f91 (fun e w'=>e=.returned (.bool r)/\w=w')) {tmps:=Q6 (.string ⟨s.toArray⟩::u1::u2::.int .i64 (a:Int)::u4::u5::u6::u7::u8::u9::u10::u11::u12::u13::u14::u15::u16::u17::u18::u19::u20::u21::u22::u23::u24::u25::u26::u27::u28::u29::u30::u31::u32::u33::u34::u35::u36::u37::u38::u39::u40::u41::u42::u43::u44::u45::u46::u47::u48::u49::u50::u51::[]),defers:=[]} w:=by
 generalize hc0:tl 4 (f91.body.getD .skip)=c0;simp only[tl,f91,Q3]at hc0;subst hc0;go_wp2_with fail;go_loop [4] (fun s4=>∃k:Nat,a<=k/\k<=s.length/\s4=.int .i64 (k:Int)/\Hid (∀j (h:j<s.length),a<=j->j<k->K8 s[j]=true)) (fun s4=>s.length-(intOf s4).toNat)
 case atStart=>exact⟨a,K3 _,ha,rfl,hid (fun j _ o p=>by omega)⟩
 case round=>
  obtain⟨k,f,hk,rfl,n⟩:=hrel;by_cases hlt:k<s.length
  .have d:(k:Int)<(s.length:Int):=by omega
   obtain⟨b,l⟩:∃b:Nat,(s[k]'hlt).toNat=b:=⟨_,rfl⟩
   have hbv:(((⟨s.toArray⟩:ByteArray)[k]'(by simpa[ByteArray.size]using hlt)).toNat:Int)=(b:Int):=by rw[<-l];rfl
   have c:=hid (zll (s[k]'hlt) b l);clear l;by_cases h48:48<=b
   .have i:¬(b:Int)<48:=by omega
    by_cases h57:b<=57
    .have m:¬(57:Int)<(b:Int):=by omega
     go_wp2;go_round
     case rel=>exact⟨k+1,by omega,by omega,by go_num,hid (fun j h o p=>by
      by_cases e:j=k
      .subst e;rw[c.out];simp[h48,h57]
      .exact n.out j h o (by omega))⟩
     case measure=>simp[intOf];omega
    .have m:(57:Int)<(b:Int):=by omega
     have g:Hid (r=false):=hid (by rw[<-hr.out];exact all_at hlt f (by rw[c.out];simp[h57]));go_wp2;go_ret;rw[g.out];exact⟨rfl,rfl⟩
   .have i:(b:Int)<48:=by omega
    have g:Hid (r=false):=hid (by rw[<-hr.out];exact all_at hlt f (by rw[c.out];simp[h48]));go_wp2;go_ret;rw[g.out];exact⟨rfl,rfl⟩
  .have d:¬(k:Int)<(s.length:Int):=by omega
   have g:Hid (r=true):=hid (by
    rw[<-hr.out,List.all_eq_true];intro x t;obtain⟨j,q,rfl⟩:=List.getElem_of_mem t;rw[Y1]at q;rw[X1];exact n.out (a+j) (by omega) (by omega) (by omega))
   go_wp2;go_ret;rw[g.out];exact⟨rfl,rfl⟩
theorem zdc (s:Q0) (hl:s.length<=1073741823) (a:Nat) (ha:a<=s.length) (w:World) (r:Bool) (hr:Hid ((if a=s.length\/s.length-a>400\/((s.drop a).head?=some 48/\s.length>1)then false else(s.drop a).all K8)=r)) {u1 u2 u4 u5 u6 u7 u8 u9 u10 u11 u12 u13 u14 u15 u16 u17 u18 u19 u20 u21 u22 u23 u24 u25 u26 u27 u28 u29 u30 u31 u32 u33 u34 u35 u36 u37 u38 u39 u40 u41 u42 u43 u44 u45 u46 u47 u48 u49 u50 u51:Value}:
 Code.wp prog (tl 3 (f91.body.getD .skip)) (bodyPost prog f91 (fun e w'=>e=.returned (.bool r)/\w=w')) {tmps:=Q6 (.string ⟨s.toArray⟩::u1::u2::.int .i64 (a:Int)::u4::u5::u6::u7::u8::u9::u10::u11::u12::u13::u14::u15::u16::u17::u18::u19::u20::u21::u22::u23::u24::u25::u26::u27::u28::u29::u30::u31::u32::u33::u34::u35::u36::u37::u38::u39::u40::u41::u42::u43::u44::u45::u46::u47::u48::u49::u50::u51::[]),defers:=[]} w:=by
 generalize hc0:tl 3 (f91.body.getD .skip)=c0;simp only[tl,f91,Q3]at hc0;subst hc0;by_cases h1:a=s.length
 .have g:((a:Int)==(s.length:Int))=true:=by rw[qkq];omega
  have d:Hid (r=false):=hid (by rw[<-hr.out,if_pos (.inl h1)]);clear h1;go_wp2;go_ret;rw[d.out];exact⟨rfl,rfl⟩
 .have g:((a:Int)==(s.length:Int))=false:=by rw[qqq];omega
  have b:a<s.length:=by omega
  by_cases h2:s.length-a>400
  .have k:(400:Int)<(s.length:Int)-(a:Int):=by omega
   have d:Hid (r=false):=hid (by rw[<-hr.out,if_pos (.inr (.inl h2))]);clear h1 h2;go_wp2;go_ret;rw[d.out];exact⟨rfl,rfl⟩
  .have k:¬(400:Int)<(s.length:Int)-(a:Int):=by omega
   have c:(s.drop a).head?=some s[a]:=by rw[Z6,Q2 b]
   by_cases h3:s[a]=48
   .have m:=zaz s a b _ 48 48 rfl rfl h3;have l:=zaq s a b _ 48 48 rfl rfl h3;by_cases h4:s.length>1
    .have i:(1:Int)<(s.length:Int):=by omega
     have d:Hid (r=false):=hid (by rw[<-hr.out,if_pos (.inr (.inr ⟨by rw[c,h3],h4⟩))]);clear h1 h2 h3 c;go_wp2;go_ret;rw[d.out];exact⟨rfl,rfl⟩
    .have i:¬(1:Int)<(s.length:Int):=by omega
     have j:Hid ((s.drop a).all K8=r):=hid (by rw[<-hr.out,if_neg (by rintro(h|h|⟨_,h⟩);exact h1 h;exact h2 h;exact h4 h)]);clear h1 h2 h3 c;go_upto_if 34 with fail;go_cut [] (fun f=>f=w)
     case first=>
      go_wp2;go_meet;exact rfl
     case rest=>
     subst hcut;refine(‹∀(a:Act) (w_1:World),Code.wp prog _ _ a w_1->_›) _ _ ?_;exact zfm s hl a ha _ r j
   .have m:=zao s a b _ 48 48 rfl rfl h3;have l:=zar s a b _ 48 48 rfl rfl h3;have j:Hid ((s.drop a).all K8=r):=hid (by rw[<-hr.out,if_neg (by rintro(h|h|⟨h,_⟩);exact h1 h;exact h2 h;rw[c]at h;injection h with h;exact h3 h)]);clear h1 h2 h3 c;go_upto_if 34 with fail;go_cut [] (fun f=>f=w)
    case first=>
     go_wp2;go_meet;exact rfl
    case rest=>
    subst hcut;refine(‹∀(a:Act) (w_1:World),Code.wp prog _ _ a w_1->_›) _ _ ?_;exact zfm s hl a ha _ r j
theorem zgm (s:Q0) (hl:s.length<=1073741823) (w:World):Calls prog 91 #[.string ⟨s.toArray⟩] w fun e w'=>e=.returned (.bool (intB s))/\w=w':=by
 obtain⟨r,h⟩:=ex (intB s)
 rw[h];have b:=fun(a:Nat) ha=>hid ((zwu s a ha).symm.trans h)
 clear h;by_cases h0:0<s.length
 .have g:(0:Int)<(s.length:Int):=by omega
  have f:s.head?=some s[0]:=by rw[List.head?_eq_getElem?,Q2 h0]
  by_cases h45:s[0]=45
  .have j:=zaz s 0 h0 _ 45 45 rfl rfl h45;have i:=zaq s 0 h0 _ 45 45 rfl rfl h45;have d:=b 1 (by rw[f,h45];rfl);clear b f h45;go_enter func91,ntmps91;go_upto_if 12 with fail;go_cut [3] (fun s3 c=>s3=.int .i64 ((1:Nat):Int)/\c=w)
   case first=>
    go_wp2;go_meet;exact⟨rfl,rfl⟩
   case rest=>
   obtain⟨rfl,rfl⟩:=hcut;refine(‹∀(a:Act) (w_1:World),Code.wp prog _ _ a w_1->_›) _ _ ?_;exact zdc s hl 1 (by omega) _ r d
  .have j:=zao s 0 h0 _ 45 45 rfl rfl h45;have i:=zar s 0 h0 _ 45 45 rfl rfl h45;have d:=b 0 (by rw[f,if_neg (by intro e;injection e with e;exact h45 e)]);clear b f h45;go_enter func91,ntmps91;go_upto_if 12 with fail;go_cut [3] (fun s3 c=>s3=.int .i64 ((0:Nat):Int)/\c=w)
   case first=>
    go_wp2;go_meet;exact⟨rfl,rfl⟩
   case rest=>
   obtain⟨rfl,rfl⟩:=hcut;refine(‹∀(a:Act) (w_1:World),Code.wp prog _ _ a w_1->_›) _ _ ?_;exact zdc s hl 0 (by omega) _ r d
 .have g:¬(0:Int)<(s.length:Int):=by omega
  have d:=b 0 (by rw[show s=[]from List.eq_nil_of_length_eq_zero (by omega)];rfl);clear b;go_enter func91,ntmps91;go_upto_if 12 with fail;go_cut [3] (fun s3 c=>s3=.int .i64 ((0:Nat):Int)/\c=w)
  case first=>
   go_wp2;go_meet;exact⟨rfl,rfl⟩
  case rest=>
  obtain⟨rfl,rfl⟩:=hcut;refine(‹∀(a:Act) (w_1:World),Code.wp prog _ _ a w_1->_›) _ _ ?_;exact zdc s hl 0 (by omega) _ r d
end Go.Proofs.YtpgmfihonmoliabGreatDoor

import Derived.Test.YtoigpackhninoaaGreatDoorGrForm2
import Derived.Test.YtoigpackhninoaaGreatDoorZ12
import Derived.Lib.AppendIntMem
namespace Go.Proofs.YtoigpackhninoaaGreatDoor
open _root_.Go.Proofs.Tryz
open Go.RowKit
def jcells (m:List Int):Array Value:=(m.map (fun(x:Int)=>Value.int .i64 x)).toArray
theorem zex (m:List Int) (i:Nat) (x:Int):(jcells m).setIfInBounds i (.int .i64 x)=jcells (m.set i x):=by
 simp[jcells,List.map_set]
theorem zbm {m:List Int} {i:Nat} (h:i<m.length):(jcells m)[i]? =some (.int .i64 (m.getD i (-1))):=by
 simp[jcells,List.getD_eq_getElem?_getD,h]
structure TL where
 bN:Nat
 bI:Nat
 bL:Nat
 bS:Nat
 bO:Nat
 bV:Nat
 bG:Nat
 bZ:Nat
 bC:Nat
 rI:Nat
 rL:Nat
 rC:Nat
 rO:Nat
def TL.args (y:TL) (v:Value):Array Value:=#[v,.pointer (some ⟨y.bN,0,none⟩),.pointer (some ⟨y.bI,0,none⟩),.pointer (some ⟨y.bL,0,none⟩),.pointer (some ⟨y.bS,0,none⟩),.pointer (some ⟨y.bO,0,none⟩),.pointer (some ⟨y.bV,0,none⟩),.pointer (some ⟨y.bG,0,none⟩),.pointer (some ⟨y.bZ,0,none⟩),.pointer (some ⟨y.bC,0,none⟩)]
def TL.fn (y:TL):Value:=.func (.func 85) #[] #[.pointer (some ⟨y.bN,0,none⟩),.pointer (some ⟨y.bI,0,none⟩),.pointer (some ⟨y.bL,0,none⟩),.pointer (some ⟨y.bS,0,none⟩),.pointer (some ⟨y.bO,0,none⟩),.pointer (some ⟨y.bV,0,none⟩),.pointer (some ⟨y.bG,0,none⟩),.pointer (some ⟨y.bZ,0,none⟩),.pointer (some ⟨y.bC,0,none⟩)]
structure TLok (y:TL) (B D:Nat):Prop where
 nI:y.bN≠y.rI
 nL:y.bN≠y.rL
 nC:y.bN≠y.rC
 iL:y.rI≠y.rL
 iC:y.rI≠y.rC
 lC:y.rL≠y.rC
 sI:y.bS≠y.bI
 sL:y.bS≠y.bL
 sC:y.bS≠y.bC
 sZ:y.bS≠y.bZ
 zI:y.bZ≠y.bI
 zL:y.bZ≠y.bL
 zC:y.bZ≠y.bC
 dN:y.bN<D
 dI:y.rI<D
 dL:y.rL<D
 dC:y.rC<D
 dO:y.rO<D
 dS:y.bS<D
 dZ:y.bZ<D
 lo:B<=y.bN/\B<=y.rI/\B<=y.rL/\B<=y.rC/\B<=y.rO/\B<=y.bS/\B<=y.bZ/\B<=D
structure TAt (y:TL) (B D:Nat) (A:Option Addr) (c:Nat) (root:Int) (vs:List NV) (ns:List Gr.Nd) (w:World) (s:Gr.TS) (sv zv:Value):Prop where
 ok:TLok y B D
 hd:D<=w.heap.size
 xI:Blk w y.bI 33 #[.slice (some ⟨y.rI,0,none⟩) ns.length ns.length]
 xL:Blk w y.bL 33 #[.slice (some ⟨y.rL,0,none⟩) ns.length ns.length]
 xC:Blk w y.bC 33 #[.slice (some ⟨y.rC,0,none⟩) ns.length ns.length]
 xO:Blk w y.bO 62 #[.slice (some ⟨y.rO,0,none⟩) ns.length ns.length]
 xV:Blk w y.bV 88 #[y.fn]
 xG:Blk w y.bG 24 #[.slice A ns.length c,.int .i64 root]
 at_:GAt w B A vs ns
 bN:Blk w y.bN 3 #[.int .i64 (s.next:Int)]
 bS:Blk w y.bS 33 #[sv]
 bZ:Blk w y.bZ 33 #[zv]
 rI:Blk w y.rI 3 (icells s.idx)
 rL:Blk w y.rL 3 (icells s.low)
 rC:Blk w y.rC 3 (jcells s.inn)
 rO:Blk w y.rO 4 (bcells s.on)
 stk:OwnRow intL w D 3 sv s.stk
 siz:OwnRow intL w D 3 zv s.sizes
 apart:∀k,sv.ownBlock=some k->zv.ownBlock≠some k
section
variable {y:TL} {B D:Nat} {A:Option Addr} {c:Nat} {root:Int} {vs:List NV} {ns:List Gr.Nd} {w w':World} {s:Gr.TS} {sv zv:Value}
theorem TAt.svD (h:TAt y B D A c root vs ns w s sv zv) {k:Nat} (hk:k<D):sv.ownBlock≠some k:=fun e=>by have:=(h.stk.lt k e).1;omega
theorem TAt.zvD (h:TAt y B D A c root vs ns w s sv zv) {k:Nat} (hk:k<D):zv.ownBlock≠some k:=fun e=>by have:=(h.siz.lt k e).1;omega
theorem TAt.later (h:TAt y B D A c root vs ns w s sv zv) (hb:Below w.heap.size w w'):TAt y B D A c root vs ns w' s sv zv:=
 ⟨h.ok,Nat.le_trans h.hd hb.size,h.xI.below hb h.xI.lt,h.xL.below hb h.xL.lt,h.xC.below hb h.xC.lt,h.xO.below hb h.xO.lt,h.xV.below hb h.xV.lt,h.xG.below hb h.xG.lt,h.at_.below (hb.mono (Nat.le_trans h.ok.lo.2.2.2.2.2.2.2 h.hd)),
  h.bN.below hb h.bN.lt,h.bS.below hb h.bS.lt,h.bZ.below hb h.bZ.lt,h.rI.below hb h.rI.lt,h.rL.below hb h.rL.lt,h.rC.below hb h.rC.lt,h.rO.below hb h.rO.lt,h.stk.later hb,h.siz.later hb,h.apart⟩
theorem TAt.alloc (h:TAt y B D A c root vs ns w s sv zv) (o:Obj):TAt y B D A c root vs ns (w.alloc o) s sv zv:=h.later ((Below.refl _ _).alloc (Nat.le_refl _) o)
theorem TAt.drewN (h:TAt y B D A c root vs ns w s sv zv) (n:Nat):TAt y B D A c root vs ns (w.drewN n) s sv zv:=h.later (below_drewN (Below.refl _ _) n)
theorem TAt.drew (h:TAt y B D A c root vs ns w s sv zv):TAt y B D A c root vs ns w.drew s sv zv:=h.drewN 1
theorem TAt.setN (h:TAt y B D A c root vs ns w s sv zv) (x:Nat):TAt y B D A c root vs ns (w.setCell ⟨y.bN,0,none⟩ (.int .i64 (x:Int))) {s with next:=x} sv zv:=
 ⟨h.ok,by simp[World.setCell];exact h.hd,(h.xI.far (p:=⟨y.bN,0,none⟩) (h.xI.ne_ h.bN (by decide)) _),(h.xL.far (p:=⟨y.bN,0,none⟩) (h.xL.ne_ h.bN (by decide)) _),(h.xC.far (p:=⟨y.bN,0,none⟩) (h.xC.ne_ h.bN (by decide)) _),(h.xO.far (p:=⟨y.bN,0,none⟩) (h.xO.ne_ h.bN (by decide)) _),(h.xV.far (p:=⟨y.bN,0,none⟩) (h.xV.ne_ h.bN (by decide)) _),(h.xG.far (p:=⟨y.bN,0,none⟩) (h.xG.ne_ h.bN (by decide)) _),(h.at_.below ((Below.refl _ w).setCell (p:=⟨y.bN,0,none⟩) h.ok.lo.1 _)),(h.bN.set_ 0 _),(h.bS.far (p:=⟨y.bN,0,none⟩) (h.bS.ne_ h.bN (by decide)) _),(h.bZ.far (p:=⟨y.bN,0,none⟩) (h.bZ.ne_ h.bN (by decide)) _),(h.rI.far (p:=⟨y.bN,0,none⟩) h.ok.nI.symm _),(h.rL.far (p:=⟨y.bN,0,none⟩) h.ok.nL.symm _),(h.rC.far (p:=⟨y.bN,0,none⟩) h.ok.nC.symm _),(h.rO.far (p:=⟨y.bN,0,none⟩) (h.rO.ne_ h.bN (by decide)) _),(h.stk.setCell (p:=⟨y.bN,0,none⟩) (h.svD h.ok.dN) _),(h.siz.setCell (p:=⟨y.bN,0,none⟩) (h.zvD h.ok.dN) _),h.apart⟩
theorem TAt.setI (h:TAt y B D A c root vs ns w s sv zv) (v x:Nat):TAt y B D A c root vs ns (w.setCell ⟨y.rI,v,none⟩ (.int .i64 (x:Int))) {s with idx:=s.idx.set v x} sv zv:=
 ⟨h.ok,by simp[World.setCell];exact h.hd,(h.xI.far (p:=⟨y.rI,v,none⟩) (h.xI.ne_ h.rI (by decide)) _),(h.xL.far (p:=⟨y.rI,v,none⟩) (h.xL.ne_ h.rI (by decide)) _),(h.xC.far (p:=⟨y.rI,v,none⟩) (h.xC.ne_ h.rI (by decide)) _),(h.xO.far (p:=⟨y.rI,v,none⟩) (h.xO.ne_ h.rI (by decide)) _),(h.xV.far (p:=⟨y.rI,v,none⟩) (h.xV.ne_ h.rI (by decide)) _),(h.xG.far (p:=⟨y.rI,v,none⟩) (h.xG.ne_ h.rI (by decide)) _),(h.at_.below ((Below.refl _ w).setCell (p:=⟨y.rI,v,none⟩) h.ok.lo.2.1 _)),(h.bN.far (p:=⟨y.rI,v,none⟩) h.ok.nI _),(h.bS.far (p:=⟨y.rI,v,none⟩) (h.bS.ne_ h.rI (by decide)) _),(h.bZ.far (p:=⟨y.rI,v,none⟩) (h.bZ.ne_ h.rI (by decide)) _),(by have:=h.rI.set_ v (.int .i64 (x:Int));rw[zav]at this;exact this),(h.rL.far (p:=⟨y.rI,v,none⟩) h.ok.iL.symm _),(h.rC.far (p:=⟨y.rI,v,none⟩) h.ok.iC.symm _),(h.rO.far (p:=⟨y.rI,v,none⟩) (h.rO.ne_ h.rI (by decide)) _),(h.stk.setCell (p:=⟨y.rI,v,none⟩) (h.svD h.ok.dI) _),(h.siz.setCell (p:=⟨y.rI,v,none⟩) (h.zvD h.ok.dI) _),h.apart⟩
theorem TAt.setL (h:TAt y B D A c root vs ns w s sv zv) (v x:Nat):TAt y B D A c root vs ns (w.setCell ⟨y.rL,v,none⟩ (.int .i64 (x:Int))) {s with low:=s.low.set v x} sv zv:=
 ⟨h.ok,by simp[World.setCell];exact h.hd,(h.xI.far (p:=⟨y.rL,v,none⟩) (h.xI.ne_ h.rL (by decide)) _),(h.xL.far (p:=⟨y.rL,v,none⟩) (h.xL.ne_ h.rL (by decide)) _),(h.xC.far (p:=⟨y.rL,v,none⟩) (h.xC.ne_ h.rL (by decide)) _),(h.xO.far (p:=⟨y.rL,v,none⟩) (h.xO.ne_ h.rL (by decide)) _),(h.xV.far (p:=⟨y.rL,v,none⟩) (h.xV.ne_ h.rL (by decide)) _),(h.xG.far (p:=⟨y.rL,v,none⟩) (h.xG.ne_ h.rL (by decide)) _),(h.at_.below ((Below.refl _ w).setCell (p:=⟨y.rL,v,none⟩) h.ok.lo.2.2.1 _)),(h.bN.far (p:=⟨y.rL,v,none⟩) h.ok.nL _),(h.bS.far (p:=⟨y.rL,v,none⟩) (h.bS.ne_ h.rL (by decide)) _),(h.bZ.far (p:=⟨y.rL,v,none⟩) (h.bZ.ne_ h.rL (by decide)) _),(h.rI.far (p:=⟨y.rL,v,none⟩) h.ok.iL _),(by have:=h.rL.set_ v (.int .i64 (x:Int));rw[zav]at this;exact this),(h.rC.far (p:=⟨y.rL,v,none⟩) h.ok.lC.symm _),(h.rO.far (p:=⟨y.rL,v,none⟩) (h.rO.ne_ h.rL (by decide)) _),(h.stk.setCell (p:=⟨y.rL,v,none⟩) (h.svD h.ok.dL) _),(h.siz.setCell (p:=⟨y.rL,v,none⟩) (h.zvD h.ok.dL) _),h.apart⟩
theorem TAt.setC (h:TAt y B D A c root vs ns w s sv zv) (v:Nat) (x:Int):TAt y B D A c root vs ns (w.setCell ⟨y.rC,v,none⟩ (.int .i64 x)) {s with inn:=s.inn.set v x} sv zv:=
 ⟨h.ok,by simp[World.setCell];exact h.hd,(h.xI.far (p:=⟨y.rC,v,none⟩) (h.xI.ne_ h.rC (by decide)) _),(h.xL.far (p:=⟨y.rC,v,none⟩) (h.xL.ne_ h.rC (by decide)) _),(h.xC.far (p:=⟨y.rC,v,none⟩) (h.xC.ne_ h.rC (by decide)) _),(h.xO.far (p:=⟨y.rC,v,none⟩) (h.xO.ne_ h.rC (by decide)) _),(h.xV.far (p:=⟨y.rC,v,none⟩) (h.xV.ne_ h.rC (by decide)) _),(h.xG.far (p:=⟨y.rC,v,none⟩) (h.xG.ne_ h.rC (by decide)) _),(h.at_.below ((Below.refl _ w).setCell (p:=⟨y.rC,v,none⟩) h.ok.lo.2.2.2.1 _)),(h.bN.far (p:=⟨y.rC,v,none⟩) h.ok.nC _),(h.bS.far (p:=⟨y.rC,v,none⟩) (h.bS.ne_ h.rC (by decide)) _),(h.bZ.far (p:=⟨y.rC,v,none⟩) (h.bZ.ne_ h.rC (by decide)) _),(h.rI.far (p:=⟨y.rC,v,none⟩) h.ok.iC _),(h.rL.far (p:=⟨y.rC,v,none⟩) h.ok.lC _),(by have:=h.rC.set_ v (.int .i64 x);rw[zex]at this;exact this),(h.rO.far (p:=⟨y.rC,v,none⟩) (h.rO.ne_ h.rC (by decide)) _),(h.stk.setCell (p:=⟨y.rC,v,none⟩) (h.svD h.ok.dC) _),(h.siz.setCell (p:=⟨y.rC,v,none⟩) (h.zvD h.ok.dC) _),h.apart⟩
theorem TAt.setO (h:TAt y B D A c root vs ns w s sv zv) (v:Nat) (b:Bool):TAt y B D A c root vs ns (w.setCell ⟨y.rO,v,none⟩ (.bool b)) {s with on:=s.on.set v b} sv zv:=
 ⟨h.ok,by simp[World.setCell];exact h.hd,(h.xI.far (p:=⟨y.rO,v,none⟩) (h.xI.ne_ h.rO (by decide)) _),(h.xL.far (p:=⟨y.rO,v,none⟩) (h.xL.ne_ h.rO (by decide)) _),(h.xC.far (p:=⟨y.rO,v,none⟩) (h.xC.ne_ h.rO (by decide)) _),(h.xO.far (p:=⟨y.rO,v,none⟩) (h.xO.ne_ h.rO (by decide)) _),(h.xV.far (p:=⟨y.rO,v,none⟩) (h.xV.ne_ h.rO (by decide)) _),(h.xG.far (p:=⟨y.rO,v,none⟩) (h.xG.ne_ h.rO (by decide)) _),(h.at_.below ((Below.refl _ w).setCell (p:=⟨y.rO,v,none⟩) h.ok.lo.2.2.2.2.1 _)),(h.bN.far (p:=⟨y.rO,v,none⟩) (h.bN.ne_ h.rO (by decide)) _),(h.bS.far (p:=⟨y.rO,v,none⟩) (h.bS.ne_ h.rO (by decide)) _),(h.bZ.far (p:=⟨y.rO,v,none⟩) (h.bZ.ne_ h.rO (by decide)) _),(h.rI.far (p:=⟨y.rO,v,none⟩) (h.rI.ne_ h.rO (by decide)) _),(h.rL.far (p:=⟨y.rO,v,none⟩) (h.rL.ne_ h.rO (by decide)) _),(h.rC.far (p:=⟨y.rO,v,none⟩) (h.rC.ne_ h.rO (by decide)) _),(by have:=h.rO.set_ v (.bool b);rw[zew]at this;exact this),(h.stk.setCell (p:=⟨y.rO,v,none⟩) (h.svD h.ok.dO) _),(h.siz.setCell (p:=⟨y.rO,v,none⟩) (h.zvD h.ok.dO) _),h.apart⟩
theorem TAt.setS (h:TAt y B D A c root vs ns w s sv zv) {sv2:Value} {l:List Nat} (ho:OwnRow intL w D 3 sv2 l) (hap:∀k,sv2.ownBlock=some k->zv.ownBlock≠some k):TAt y B D A c root vs ns (w.setCell ⟨y.bS,0,none⟩ sv2) {s with stk:=l} sv2 zv:=
 ⟨h.ok,by simp[World.setCell];exact h.hd,(h.xI.far (p:=⟨y.bS,0,none⟩) h.ok.sI.symm _),(h.xL.far (p:=⟨y.bS,0,none⟩) h.ok.sL.symm _),(h.xC.far (p:=⟨y.bS,0,none⟩) h.ok.sC.symm _),(h.xO.far (p:=⟨y.bS,0,none⟩) (h.xO.ne_ h.bS (by decide)) _),(h.xV.far (p:=⟨y.bS,0,none⟩) (h.xV.ne_ h.bS (by decide)) _),(h.xG.far (p:=⟨y.bS,0,none⟩) (h.xG.ne_ h.bS (by decide)) _),(h.at_.below ((Below.refl _ w).setCell (p:=⟨y.bS,0,none⟩) h.ok.lo.2.2.2.2.2.1 _)),(h.bN.far (p:=⟨y.bS,0,none⟩) (h.bN.ne_ h.bS (by decide)) _),(h.bS.set_ 0 _),(h.bZ.far (p:=⟨y.bS,0,none⟩) h.ok.sZ.symm _),(h.rI.far (p:=⟨y.bS,0,none⟩) (h.rI.ne_ h.bS (by decide)) _),(h.rL.far (p:=⟨y.bS,0,none⟩) (h.rL.ne_ h.bS (by decide)) _),(h.rC.far (p:=⟨y.bS,0,none⟩) (h.rC.ne_ h.bS (by decide)) _),(h.rO.far (p:=⟨y.bS,0,none⟩) (h.rO.ne_ h.bS (by decide)) _),(ho.setCell (p:=⟨y.bS,0,none⟩) (fun e=>absurd (show D<=y.bS from(ho.lt _ e).1) (by have:=h.ok.dS;omega)) _),(h.siz.setCell (p:=⟨y.bS,0,none⟩) (h.zvD h.ok.dS) _),hap⟩
theorem zoe (g n c m:Nat) (hm:m<=c) (w:World):(Instr.slice 33 (.slice (some ⟨g,0,none⟩) n c) none (some (.int .i64 (m:Int))) none).run prog w=.ok (.slice (some ⟨g,0,none⟩) m c) w:=by
 obtain⟨i5,hi5,_,_,_⟩:=info_parts infoInt;rw[run_slice_h (P:=prog) 33 3 i5 underlying33 hi5 (some ⟨g,0,none⟩) n c m hm w];split<;>simp[Addr.add]
theorem OwnRow.shape {α:Type} {L:Lay α} {w:World} {base:Nat} {E:TypeId} {v:Value} {l:List α} (h:OwnRow L w base E v l) (hl:l≠[]):∃g cap,v=.slice (some ⟨g,0,none⟩) l.length cap/\l.length<=cap:=by
 rcases h.2 with⟨_,hn⟩|⟨g,cap,cur,hv,hbg,hh,hc,hm,hcs,htk⟩
 ·grind
 ·exact⟨g,cap,hv,hc⟩
theorem OwnRow.drop1 {α:Type} {L:Lay α} {w:World} {base:Nat} {E:TypeId} {g cap n:Nat} {l:List α} {x:α} (h:OwnRow L w base E (.slice (some ⟨g,0,none⟩) n cap) (l++[x])):OwnRow L w base E (.slice (some ⟨g,0,none⟩) l.length cap) l:=by
 rcases h.2 with⟨hv,_⟩|⟨g',cap',cur,hv,hbg,hh,hc,hm,hcs,htk⟩
 ·cases hv
 ·injection hv with e1 e2 e3
  injection e1 with e1
  injection e1 with e1
  subst e1;subst e3;rw[List.length_append,List.length_cons,List.length_nil]at hc htk;refine⟨L.all_len l,.inr ⟨g,cap,cur,rfl,hbg,hh,by omega,hm,hcs,?_⟩⟩;have h1:(cur.toList.take ((l.length+(0+1))*L.sz)).take (l.length*L.sz)=(L.all (l++[x])).take (l.length*L.sz):=by rw[htk]
  rw[List.take_take,L.all_append]at h1;rw[show min (l.length*L.sz) ((l.length+(0+1))*L.sz)=l.length*L.sz from by rw[Nat.add_mul];omega]at h1;rw[h1,List.take_append_of_le_length (by rw[L.all_len];exact Nat.le_refl _),List.take_of_length_le (by rw[L.all_len];exact Nat.le_refl _)]
theorem OwnRow.off {α:Type} {L:Lay α} {w w2:World} {base:Nat} {E:TypeId} {v:Value} {l:List α} {row:Option Nat} (h:OwnRow L w base E v l) (hg:w.grownBy w2 row) (hne:∀k,v.ownBlock=some k->some k≠row):OwnRow L w2 base E v l:=by
 have hlt:=h.lt;refine⟨h.1,h.2.imp id ?_⟩;rintro⟨g,cap,cur,hv,hge,hh,r⟩;have e:v.ownBlock=some g:=by rw[hv];rfl
 exact⟨g,cap,cur,hv,hge,(hg.block g (hlt g e).2 (hne g e)).trans hh,r⟩
theorem TAt.grownS (h:TAt y B D A c root vs ns w s sv zv) {w2:World} {sv2:Value} {l:List Nat} (ho:OwnRow intL w2 D 3 sv2 l) (hg:w.grownBy w2 sv.ownBlock) (hat:sv2.ownBlock=sv.ownBlock\/sv2.ownBlock=some w.heap.size):
 TAt y B D A c root vs ns (w2.setCell ⟨y.bS,0,none⟩ sv2) {s with stk:=l} sv2 zv:=by
 have kd:∀{g:Nat} {t:TypeId} {cs:Array Value},Blk w g t cs->g<D->Blk w2 g t cs:=fun hb hd=>hb.grown hg (fun e=>h.svD hd e.symm)
 have kt:∀{g:Nat} {t:TypeId} {cs:Array Value},Blk w g t cs->3≠t->Blk w2 g t cs:=fun hb hd=>hb.grown hg (fun e=>zbk h.stk hb hd e.symm)
 have hbel:Below D w w2:=h.stk.grown_below hg h.hd;have hz:OwnRow intL w2 D 3 zv s.sizes:=h.siz.off hg (fun k e e2=>h.apart k e2.symm e);have h2:TAt y B D A c root vs ns w2 {s with stk:=s.stk} sv2 zv\/True:=.inr trivial;clear h2;have hap:∀k,sv2.ownBlock=some k->zv.ownBlock≠some k:=fun k e e2=>by
  rcases hat with h1|h1
  ·exact h.apart k (h1.symm.trans e) e2
  ·have:=(h.siz.lt k e2).2;rw[h1]at e;injection e with e
   omega
 have hsz:=hg.size;exact⟨h.ok,by simp[World.setCell];exact Nat.le_trans h.hd hsz,((kt h.xI (by decide)).far (p:=⟨y.bS,0,none⟩) h.ok.sI.symm _),((kt h.xL (by decide)).far (p:=⟨y.bS,0,none⟩) h.ok.sL.symm _),((kt h.xC (by decide)).far (p:=⟨y.bS,0,none⟩) h.ok.sC.symm _),((kt h.xO (by decide)).far (p:=⟨y.bS,0,none⟩) (h.xO.ne_ h.bS (by decide)) _),((kt h.xV (by decide)).far (p:=⟨y.bS,0,none⟩) (h.xV.ne_ h.bS (by decide)) _),((kt h.xG (by decide)).far (p:=⟨y.bS,0,none⟩) (h.xG.ne_ h.bS (by decide)) _),(h.at_.below (hbel.mono h.ok.lo.2.2.2.2.2.2.2)).below ((Below.refl _ w2).setCell (p:=⟨y.bS,0,none⟩) h.ok.lo.2.2.2.2.2.1 _),((kd h.bN h.ok.dN).far (p:=⟨y.bS,0,none⟩) (h.bN.ne_ h.bS (by decide)) _),((kt h.bS (by decide)).set_ 0 _),((kt h.bZ (by decide)).far (p:=⟨y.bS,0,none⟩) h.ok.sZ.symm _),((kd h.rI h.ok.dI).far (p:=⟨y.bS,0,none⟩) (h.rI.ne_ h.bS (by decide)) _),((kd h.rL h.ok.dL).far (p:=⟨y.bS,0,none⟩) (h.rL.ne_ h.bS (by decide)) _),((kd h.rC h.ok.dC).far (p:=⟨y.bS,0,none⟩) (h.rC.ne_ h.bS (by decide)) _),((kt h.rO (by decide)).far (p:=⟨y.bS,0,none⟩) (h.rO.ne_ h.bS (by decide)) _),
  (ho.setCell (p:=⟨y.bS,0,none⟩) (fun e=>absurd (show D<=y.bS from(ho.lt _ e).1) (by have:=h.ok.dS;omega)) _),(hz.setCell (p:=⟨y.bS,0,none⟩) (h.zvD h.ok.dS) _),hap⟩
theorem TAt.grownZ (h:TAt y B D A c root vs ns w s sv zv) {w2:World} {zv2:Value} {l:List Nat} (ho:OwnRow intL w2 D 3 zv2 l) (hg:w.grownBy w2 zv.ownBlock) (hat:zv2.ownBlock=zv.ownBlock\/zv2.ownBlock=some w.heap.size):
 TAt y B D A c root vs ns (w2.setCell ⟨y.bZ,0,none⟩ zv2) {s with sizes:=l} sv zv2:=by
 have kd:∀{g:Nat} {t:TypeId} {cs:Array Value},Blk w g t cs->g<D->Blk w2 g t cs:=fun hb hd=>hb.grown hg (fun e=>h.zvD hd e.symm)
 have kt:∀{g:Nat} {t:TypeId} {cs:Array Value},Blk w g t cs->3≠t->Blk w2 g t cs:=fun hb hd=>hb.grown hg (fun e=>zbk h.siz hb hd e.symm)
 have hbel:Below D w w2:=h.siz.grown_below hg h.hd;have hz:OwnRow intL w2 D 3 sv s.stk:=h.stk.off hg (fun k e e2=>h.apart k e e2.symm);have hap:∀k,sv.ownBlock=some k->zv2.ownBlock≠some k:=fun k e e2=>by
  rcases hat with h1|h1
  ·exact h.apart k e (h1.symm.trans e2)
  ·have:=(h.stk.lt k e).2;rw[h1]at e2;injection e2 with e2
   omega
 have hsz:=hg.size;exact⟨h.ok,by simp[World.setCell];exact Nat.le_trans h.hd hsz,((kt h.xI (by decide)).far (p:=⟨y.bZ,0,none⟩) h.ok.zI.symm _),((kt h.xL (by decide)).far (p:=⟨y.bZ,0,none⟩) h.ok.zL.symm _),((kt h.xC (by decide)).far (p:=⟨y.bZ,0,none⟩) h.ok.zC.symm _),((kt h.xO (by decide)).far (p:=⟨y.bZ,0,none⟩) (h.xO.ne_ h.bZ (by decide)) _),((kt h.xV (by decide)).far (p:=⟨y.bZ,0,none⟩) (h.xV.ne_ h.bZ (by decide)) _),((kt h.xG (by decide)).far (p:=⟨y.bZ,0,none⟩) (h.xG.ne_ h.bZ (by decide)) _),(h.at_.below (hbel.mono h.ok.lo.2.2.2.2.2.2.2)).below ((Below.refl _ w2).setCell (p:=⟨y.bZ,0,none⟩) h.ok.lo.2.2.2.2.2.2.1 _),((kd h.bN h.ok.dN).far (p:=⟨y.bZ,0,none⟩) (h.bN.ne_ h.bZ (by decide)) _),((kt h.bS (by decide)).far (p:=⟨y.bZ,0,none⟩) h.ok.sZ _),((kt h.bZ (by decide)).set_ 0 _),((kd h.rI h.ok.dI).far (p:=⟨y.bZ,0,none⟩) (h.rI.ne_ h.bZ (by decide)) _),((kd h.rL h.ok.dL).far (p:=⟨y.bZ,0,none⟩) (h.rL.ne_ h.bZ (by decide)) _),((kd h.rC h.ok.dC).far (p:=⟨y.bZ,0,none⟩) (h.rC.ne_ h.bZ (by decide)) _),((kt h.rO (by decide)).far (p:=⟨y.bZ,0,none⟩) (h.rO.ne_ h.bZ (by decide)) _),
  (hz.setCell (p:=⟨y.bZ,0,none⟩) (h.svD h.ok.dZ) _),(ho.setCell (p:=⟨y.bZ,0,none⟩) (fun e=>absurd (show D<=y.bZ from(ho.lt _ e).1) (by have:=h.ok.dZ;omega)) _),hap⟩
end
open Gr
open _root_.Go.Lib (hid)
set_option maxRecDepth 100000
set_option maxHeartbeats 16000000
theorem zcx (neg:Bool):(signS neg).length<=1:=by cases neg<;>decide
theorem zou (x:Gr.Dn) (A:Option Addr) (c:Nat) (hl:x.d.length<=1073741823) (hd:∀v∈x.d,v<10) (w:World) (h:RowAt byteL w w.heap.size A (d8 x.d)):
 Calls prog 144 #[.agg #[.bool x.neg,.slice A x.d.length c,.int .i64 x.e]] w fun e' w'=>e'=.returned (.string ⟨(coef x).toArray⟩)/\Below w.heap.size w w':=by
 obtain⟨neg,d,E⟩:=x;simp only at hl hd h ⊢;have HRow:=hid h;have HD:=hid hd;clear h hd;obtain⟨r,hr⟩:=ex (coef ⟨neg,d,E⟩)
 have HR:=hid hr;rw[hr];clear hr;go_enter func144,ntmps144;go_upto_region 1 with fail;obtain⟨w0,hw0⟩:=ex (w.alloc (.cells #[.bool neg,.slice A d.length c,.int .i64 E] 125))
 obtain⟨gb,hgb⟩:=ex w.heap.size
 have HB0:Hid (Blk w0 gb 125 #[.bool neg,.slice A d.length c,.int .i64 E]/\Below gb w w0/\w0.heap.size=gb+1):=hid (by rw[<-hw0,<-hgb];exact⟨Blk.new _ _ _,(Below.refl _ _).alloc (Nat.le_refl _) _,by simp⟩);have HGB:=hid hgb;rw[hgb]at HRow;(try rw[hw0]);(try rw[hgb]);clear hw0 hgb;have q1:w0.cell? ⟨gb,1,none⟩=some (.slice A d.length c):=HB0.out.1.cell 1;by_cases h0:d=[]
 ·subst h0;have HF:Hid (r=[48]):=hid (by rw[<-HR.out];rfl);go_wp2;go_ret;rw[HF.out,HGB.out];exact⟨rfl,HB0.out.2.1⟩
 ·have hlp:=List.length_pos_iff.2 h0;have h1:¬((d.length:Int)=0):=by omega
  have h1b:((d.length:Int)==0)=false:=by simpa using h0
  have HF:Hid (r=signS neg++d.map Gr.ch):=hid (by rw[<-HR.out];unfold coef;rw[if_neg h0];rfl);go_upto_region 3 with fail;clear q1;have hsz:w0.heap.size=gb+1:=HB0.out.2.2;have HC:Hid (∀W:WB w0.heap.size w0,Calls prog 172 #[.agg #[.bool neg,.slice A d.length c,.int .i64 E]] W.w (fun e W'=>e=.returned (.string ⟨(signS neg).toArray⟩)/\Below w0.heap.size w0 W')/\Calls prog 173 #[.agg #[.bool neg,.slice A d.length c,.int .i64 E]] W.w (fun e W'=>e=.returned (.string ⟨(d.map Gr.ch).toArray⟩)/\Below w0.heap.size w0 W')):=hid (fun W=>⟨(zot neg A d.length c E W.w).mono (fun _ _ ⟨e1,e2⟩=>⟨e1,W.h.trans (e2.mono W.h.size)⟩),(zj2 neg A d c E hl HD.out W.w (((HRow.out.below HB0.out.2.1).below (W.h.mono (by omega))).more (by have:=W.h.size;omega))).mono (fun _ _ ⟨e1,e2⟩=>⟨e1,W.h.trans (e2.mono W.h.size)⟩)⟩);have p0:∀W:WB w0.heap.size w0,W.w.cell? ⟨gb,0,none⟩=some (.bool neg):=fun W=>(W.h.cell (p:=⟨gb,0,none⟩) (by simp;omega)).trans (HB0.out.1.cell 0)
  have p1:∀W:WB w0.heap.size w0,W.w.cell? ⟨gb,1,none⟩=some (.slice A d.length c):=fun W=>(W.h.cell (p:=⟨gb,1,none⟩) (by simp;omega)).trans (HB0.out.1.cell 1)
  have p2:∀W:WB w0.heap.size w0,W.w.cell? ⟨gb,2,none⟩=some (.int .i64 E):=fun W=>(W.h.cell (p:=⟨gb,2,none⟩) (by simp;omega)).trans (HB0.out.1.cell 2)
  clear hsz;have hadd:=fun W=>zab (signS neg) (d.map Gr.ch) (by have:=zcx neg;rw[List.length_map];omega) W
  refine zaa w0.heap.size w0 (by kernel_rfl) (by kernel_rfl) (Below.refl _ _) ?_
  repeat (go_big_quiet_step ((first| (with_reducible refine Calls.grow (HC.out _).1)| (with_reducible refine Calls.grow (HC.out _).2))))
  refine wpQuiet_nil ?_;rintro _ ⟨wz,rfl⟩;go_wp2;go_ret;rw[HF.out,HGB.out];exact⟨rfl,HB0.out.2.1.trans (wz.h.mono (by have:=HB0.out.2.2;omega))⟩
theorem zfs (n:Int) (h0:-9223372036854775808<=n) (h1:n<=9223372036854775807) (w:World) (hT:UT w):
 Calls prog 145 #[.int .i64 n] w fun e w'=>e=.returned (.string ⟨(Lib.itoa n).toArray⟩)/\Below w.heap.size w w':=
 (strconv_Itoa n h0 h1 w hT.pow).mono (fun _ _ ⟨e,k,os,h⟩=>⟨e,by rw[h];exact Lib.below_grow _ _ (Nat.le_refl _) _ _⟩)
theorem zft (n:Int) (h0:-9223372036854775808<=n) (h1:n<=9223372036854775807):(Lib.itoa n).length<=21:=by
 have:=zci n 19 (by omega);omega
theorem zl9 (x:Gr.Dn) (A:Option Addr) (c:Nat) (hl:x.d.length<=1073741823) (hd:∀v∈x.d,v<10) (h0:-9223372036854775808<=x.e) (h1:x.e<=9223372036854775807) (w:World) (hT:UT w) (h:RowAt byteL w w.heap.size A (d8 x.d)):
 Calls prog 113 #[.agg #[.bool x.neg,.slice A x.d.length c,.int .i64 x.e]] w fun e' w'=>e'=.returned (.string ⟨(Gr.text x).toArray⟩)/\Below w.heap.size w w':=by
 have HCO:=hid (fun(W:World) (hW:RowAt byteL W W.heap.size A (d8 x.d))=>zou x A c hl hd W hW);have hcl:(coef x).length<=1073741825:=by
  unfold coef;split
  ·simp
  ·have:=zcx x.neg;unfold signS at this;rw[List.length_append,List.length_map];omega
 have hil:=zft x.e h0 h1;obtain⟨r,hr⟩:=ex (coef x)
 obtain⟨r2,hr2⟩:=ex (Gr.text x)
 have HR:Hid (r2=r++101::Lib.itoa x.e):=hid (by rw[<-hr2,<-hr];rfl);rw[hr]at HCO hcl;rw[hr2];clear hr hr2;obtain⟨neg,d,E⟩:=x;simp only at hl h0 h1 h HCO hil HR ⊢;obtain⟨t,ht⟩:=ex (Lib.itoa E)
 have HIT:=hid (fun(W:World) (hW:UT W)=>zfs E h0 h1 W hW);rw[ht]at hil HR HIT;clear ht;have HRow:=hid h;have HTW:=hid hT;clear h hd hT;go_enter func113,ntmps113;go_upto_region 1 with fail;obtain⟨w0,hw0⟩:=ex (w.alloc (.cells #[.bool neg,.slice A d.length c,.int .i64 E] 125))
 obtain⟨gb,hgb⟩:=ex w.heap.size
 have HB0:Hid (Blk w0 gb 125 #[.bool neg,.slice A d.length c,.int .i64 E]/\Below gb w w0/\w0.heap.size=gb+1):=hid (by rw[<-hw0,<-hgb];exact⟨Blk.new _ _ _,(Below.refl _ _).alloc (Nat.le_refl _) _,by simp⟩);have HT0:Hid (UT w0):=hid (UT.stays _ _ HTW.out (by rw[<-hw0];exact(Below.refl _ _).alloc (Nat.le_refl _) _));have HGB:=hid hgb;rw[hgb]at HRow;(try rw[hw0]);(try rw[hgb]);clear hw0 hgb;have hsz:w0.heap.size=gb+1:=HB0.out.2.2;have HC:Hid (∀W:WB w0.heap.size w0,Calls prog 144 #[.agg #[.bool neg,.slice A d.length c,.int .i64 E]] W.w (fun e W'=>e=.returned (.string ⟨r.toArray⟩)/\Below w0.heap.size w0 W')/\Calls prog 145 #[.int .i64 E] W.w (fun e W'=>e=.returned (.string ⟨t.toArray⟩)/\Below w0.heap.size w0 W')):=hid (fun W=>⟨(HCO.out W.w (((HRow.out.below HB0.out.2.1).below (W.h.mono (by omega))).more (by have:=W.h.size;omega))).mono (fun _ _ ⟨e1,e2⟩=>⟨e1,W.h.trans (e2.mono W.h.size)⟩),(HIT.out W.w (UT.stays _ _ HT0.out W.h)).mono (fun _ _ ⟨e1,e2⟩=>⟨e1,W.h.trans (e2.mono W.h.size)⟩)⟩);have p0:∀W:WB w0.heap.size w0,W.w.cell? ⟨gb,0,none⟩=some (.bool neg):=fun W=>(W.h.cell (p:=⟨gb,0,none⟩) (by simp;omega)).trans (HB0.out.1.cell 0)
 have p1:∀W:WB w0.heap.size w0,W.w.cell? ⟨gb,1,none⟩=some (.slice A d.length c):=fun W=>(W.h.cell (p:=⟨gb,1,none⟩) (by simp;omega)).trans (HB0.out.1.cell 1)
 have p2:∀W:WB w0.heap.size w0,W.w.cell? ⟨gb,2,none⟩=some (.int .i64 E):=fun W=>(W.h.cell (p:=⟨gb,2,none⟩) (by simp;omega)).trans (HB0.out.1.cell 2)
 have hadd:=fun W=>zab r [101] (by simp;omega) W
 have hadd2:=fun W=>zab (r++[101]) t (by simp;omega) W
 clear hsz;refine zaa w0.heap.size w0 (by kernel_rfl) (by kernel_rfl) (Below.refl _ _) ?_
 repeat (go_big_quiet_step ((first| (with_reducible refine Calls.grow (HC.out _).1)| (with_reducible refine Calls.grow (HC.out _).2))))
 refine wpQuiet_nil ?_;rintro _ ⟨wz,rfl⟩;go_wp2;go_ret;rw[HR.out,HGB.out];exact⟨rfl,HB0.out.2.1.trans (wz.h.mono (by have:=HB0.out.2.2;omega))⟩
end Go.Proofs.YtoigpackhninoaaGreatDoor

import Derived.Test.YtoigpackhninoaaGreatDoorGrForm2
import Derived.Test.YtoigpackhninoaaGreatDoorZ15
import Derived.Lib.AppendIntMem
namespace Go.Proofs.YtoigpackhninoaaGreatDoor
open _root_.Go.Proofs.Tryz
open Go.RowKit
def jcells (m:List Int):Array Value:=(m.map (fun(x:Int)=>Value.int .i64 x)).toArray
theorem zf1 (m:List Int) (i:Nat) (x:Int):(jcells m).setIfInBounds i (.int .i64 x)=jcells (m.set i x):=by
 simp[jcells,List.map_set]
theorem zb2 {m:List Int} {i:Nat} (h:i<m.length):(jcells m)[i]? =some (.int .i64 (m.getD i (-1))):=by
 simp[jcells,List.getD_eq_getElem?_getD,h]
structure TL where
 bN:Nat
 bI:Nat
 bL:Nat
 bS:Nat
 bO:Nat
 bV:Nat
 bG:Nat
 bZ:Nat
 bC:Nat
 rI:Nat
 rL:Nat
 rC:Nat
 rO:Nat
def TL.args (y:TL) (v:Value):Array Value:=#[v,.pointer (some ⟨y.bN,0,none⟩),.pointer (some ⟨y.bI,0,none⟩),.pointer (some ⟨y.bL,0,none⟩),.pointer (some ⟨y.bS,0,none⟩),.pointer (some ⟨y.bO,0,none⟩),.pointer (some ⟨y.bV,0,none⟩),.pointer (some ⟨y.bG,0,none⟩),.pointer (some ⟨y.bZ,0,none⟩),.pointer (some ⟨y.bC,0,none⟩)]
def TL.fn (y:TL):Value:=.func (.func 85) #[] #[.pointer (some ⟨y.bN,0,none⟩),.pointer (some ⟨y.bI,0,none⟩),.pointer (some ⟨y.bL,0,none⟩),.pointer (some ⟨y.bS,0,none⟩),.pointer (some ⟨y.bO,0,none⟩),.pointer (some ⟨y.bV,0,none⟩),.pointer (some ⟨y.bG,0,none⟩),.pointer (some ⟨y.bZ,0,none⟩),.pointer (some ⟨y.bC,0,none⟩)]
structure TLok (y:TL) (B D:Nat):Prop where
 nI:y.bN≠y.rI
 nL:y.bN≠y.rL
 nC:y.bN≠y.rC
 iL:y.rI≠y.rL
 iC:y.rI≠y.rC
 lC:y.rL≠y.rC
 sI:y.bS≠y.bI
 sL:y.bS≠y.bL
 sC:y.bS≠y.bC
 sZ:y.bS≠y.bZ
 zI:y.bZ≠y.bI
 zL:y.bZ≠y.bL
 zC:y.bZ≠y.bC
 dN:y.bN<D
 dI:y.rI<D
 dL:y.rL<D
 dC:y.rC<D
 dO:y.rO<D
 dS:y.bS<D
 dZ:y.bZ<D
 lo:B<=y.bN/\B<=y.rI/\B<=y.rL/\B<=y.rC/\B<=y.rO/\B<=y.bS/\B<=y.bZ/\B<=D
structure TAt (y:TL) (B D:Nat) (A:Option Addr) (c:Nat) (root:Int) (vs:List NV) (ns:List Gr.Nd) (w:World) (s:Gr.TS) (sv zv:Value):Prop where
 ok:TLok y B D
 hd:D<=w.heap.size
 xI:Blk w y.bI 33 #[.slice (some ⟨y.rI,0,none⟩) ns.length ns.length]
 xL:Blk w y.bL 33 #[.slice (some ⟨y.rL,0,none⟩) ns.length ns.length]
 xC:Blk w y.bC 33 #[.slice (some ⟨y.rC,0,none⟩) ns.length ns.length]
 xO:Blk w y.bO 62 #[.slice (some ⟨y.rO,0,none⟩) ns.length ns.length]
 xV:Blk w y.bV 88 #[y.fn]
 xG:Blk w y.bG 24 #[.slice A ns.length c,.int .i64 root]
 at_:GAt w B A vs ns
 bN:Blk w y.bN 3 #[.int .i64 (s.next:Int)]
 bS:Blk w y.bS 33 #[sv]
 bZ:Blk w y.bZ 33 #[zv]
 rI:Blk w y.rI 3 (icells s.idx)
 rL:Blk w y.rL 3 (icells s.low)
 rC:Blk w y.rC 3 (jcells s.inn)
 rO:Blk w y.rO 4 (bcells s.on)
 stk:OwnRow intL w D 3 sv s.stk
 siz:OwnRow intL w D 3 zv s.sizes
 apart:∀k,sv.ownBlock=some k->zv.ownBlock≠some k
section
variable {y:TL} {B D:Nat} {A:Option Addr} {c:Nat} {root:Int} {vs:List NV} {ns:List Gr.Nd} {w w':World} {s:Gr.TS} {sv zv:Value}
theorem TAt.svD (h:TAt y B D A c root vs ns w s sv zv) {k:Nat} (hk:k<D):sv.ownBlock≠some k:=fun e=>by have:=(h.stk.lt k e).1;omega
theorem TAt.zvD (h:TAt y B D A c root vs ns w s sv zv) {k:Nat} (hk:k<D):zv.ownBlock≠some k:=fun e=>by have:=(h.siz.lt k e).1;omega
theorem TAt.later (h:TAt y B D A c root vs ns w s sv zv) (hb:Below w.heap.size w w'):TAt y B D A c root vs ns w' s sv zv:=
 ⟨h.ok,Nat.le_trans h.hd hb.size,h.xI.below hb h.xI.lt,h.xL.below hb h.xL.lt,h.xC.below hb h.xC.lt,h.xO.below hb h.xO.lt,h.xV.below hb h.xV.lt,h.xG.below hb h.xG.lt,h.at_.below (hb.mono (Nat.le_trans h.ok.lo.2.2.2.2.2.2.2 h.hd)),
  h.bN.below hb h.bN.lt,h.bS.below hb h.bS.lt,h.bZ.below hb h.bZ.lt,h.rI.below hb h.rI.lt,h.rL.below hb h.rL.lt,h.rC.below hb h.rC.lt,h.rO.below hb h.rO.lt,h.stk.later hb,h.siz.later hb,h.apart⟩
theorem TAt.alloc (h:TAt y B D A c root vs ns w s sv zv) (o:Obj):TAt y B D A c root vs ns (w.alloc o) s sv zv:=h.later ((Below.refl _ _).alloc (Nat.le_refl _) o)
theorem TAt.drewN (h:TAt y B D A c root vs ns w s sv zv) (n:Nat):TAt y B D A c root vs ns (w.drewN n) s sv zv:=h.later (below_drewN (Below.refl _ _) n)
theorem TAt.drew (h:TAt y B D A c root vs ns w s sv zv):TAt y B D A c root vs ns w.drew s sv zv:=h.drewN 1
theorem TAt.setN (h:TAt y B D A c root vs ns w s sv zv) (x:Nat):TAt y B D A c root vs ns (w.setCell ⟨y.bN,0,none⟩ (.int .i64 (x:Int))) {s with next:=x} sv zv:=
 ⟨h.ok,by simp[World.setCell];exact h.hd,(h.xI.far (p:=⟨y.bN,0,none⟩) (h.xI.ne_ h.bN (by decide)) _),(h.xL.far (p:=⟨y.bN,0,none⟩) (h.xL.ne_ h.bN (by decide)) _),(h.xC.far (p:=⟨y.bN,0,none⟩) (h.xC.ne_ h.bN (by decide)) _),(h.xO.far (p:=⟨y.bN,0,none⟩) (h.xO.ne_ h.bN (by decide)) _),(h.xV.far (p:=⟨y.bN,0,none⟩) (h.xV.ne_ h.bN (by decide)) _),(h.xG.far (p:=⟨y.bN,0,none⟩) (h.xG.ne_ h.bN (by decide)) _),(h.at_.below ((Below.refl _ w).setCell (p:=⟨y.bN,0,none⟩) h.ok.lo.1 _)),(h.bN.set_ 0 _),(h.bS.far (p:=⟨y.bN,0,none⟩) (h.bS.ne_ h.bN (by decide)) _),(h.bZ.far (p:=⟨y.bN,0,none⟩) (h.bZ.ne_ h.bN (by decide)) _),(h.rI.far (p:=⟨y.bN,0,none⟩) h.ok.nI.symm _),(h.rL.far (p:=⟨y.bN,0,none⟩) h.ok.nL.symm _),(h.rC.far (p:=⟨y.bN,0,none⟩) h.ok.nC.symm _),(h.rO.far (p:=⟨y.bN,0,none⟩) (h.rO.ne_ h.bN (by decide)) _),(h.stk.setCell (p:=⟨y.bN,0,none⟩) (h.svD h.ok.dN) _),(h.siz.setCell (p:=⟨y.bN,0,none⟩) (h.zvD h.ok.dN) _),h.apart⟩
theorem TAt.setI (h:TAt y B D A c root vs ns w s sv zv) (v x:Nat):TAt y B D A c root vs ns (w.setCell ⟨y.rI,v,none⟩ (.int .i64 (x:Int))) {s with idx:=s.idx.set v x} sv zv:=
 ⟨h.ok,by simp[World.setCell];exact h.hd,(h.xI.far (p:=⟨y.rI,v,none⟩) (h.xI.ne_ h.rI (by decide)) _),(h.xL.far (p:=⟨y.rI,v,none⟩) (h.xL.ne_ h.rI (by decide)) _),(h.xC.far (p:=⟨y.rI,v,none⟩) (h.xC.ne_ h.rI (by decide)) _),(h.xO.far (p:=⟨y.rI,v,none⟩) (h.xO.ne_ h.rI (by decide)) _),(h.xV.far (p:=⟨y.rI,v,none⟩) (h.xV.ne_ h.rI (by decide)) _),(h.xG.far (p:=⟨y.rI,v,none⟩) (h.xG.ne_ h.rI (by decide)) _),(h.at_.below ((Below.refl _ w).setCell (p:=⟨y.rI,v,none⟩) h.ok.lo.2.1 _)),(h.bN.far (p:=⟨y.rI,v,none⟩) h.ok.nI _),(h.bS.far (p:=⟨y.rI,v,none⟩) (h.bS.ne_ h.rI (by decide)) _),(h.bZ.far (p:=⟨y.rI,v,none⟩) (h.bZ.ne_ h.rI (by decide)) _),(by have:=h.rI.set_ v (.int .i64 (x:Int));rw[zau]at this;exact this),(h.rL.far (p:=⟨y.rI,v,none⟩) h.ok.iL.symm _),(h.rC.far (p:=⟨y.rI,v,none⟩) h.ok.iC.symm _),(h.rO.far (p:=⟨y.rI,v,none⟩) (h.rO.ne_ h.rI (by decide)) _),(h.stk.setCell (p:=⟨y.rI,v,none⟩) (h.svD h.ok.dI) _),(h.siz.setCell (p:=⟨y.rI,v,none⟩) (h.zvD h.ok.dI) _),h.apart⟩
theorem TAt.setL (h:TAt y B D A c root vs ns w s sv zv) (v x:Nat):TAt y B D A c root vs ns (w.setCell ⟨y.rL,v,none⟩ (.int .i64 (x:Int))) {s with low:=s.low.set v x} sv zv:=
 ⟨h.ok,by simp[World.setCell];exact h.hd,(h.xI.far (p:=⟨y.rL,v,none⟩) (h.xI.ne_ h.rL (by decide)) _),(h.xL.far (p:=⟨y.rL,v,none⟩) (h.xL.ne_ h.rL (by decide)) _),(h.xC.far (p:=⟨y.rL,v,none⟩) (h.xC.ne_ h.rL (by decide)) _),(h.xO.far (p:=⟨y.rL,v,none⟩) (h.xO.ne_ h.rL (by decide)) _),(h.xV.far (p:=⟨y.rL,v,none⟩) (h.xV.ne_ h.rL (by decide)) _),(h.xG.far (p:=⟨y.rL,v,none⟩) (h.xG.ne_ h.rL (by decide)) _),(h.at_.below ((Below.refl _ w).setCell (p:=⟨y.rL,v,none⟩) h.ok.lo.2.2.1 _)),(h.bN.far (p:=⟨y.rL,v,none⟩) h.ok.nL _),(h.bS.far (p:=⟨y.rL,v,none⟩) (h.bS.ne_ h.rL (by decide)) _),(h.bZ.far (p:=⟨y.rL,v,none⟩) (h.bZ.ne_ h.rL (by decide)) _),(h.rI.far (p:=⟨y.rL,v,none⟩) h.ok.iL _),(by have:=h.rL.set_ v (.int .i64 (x:Int));rw[zau]at this;exact this),(h.rC.far (p:=⟨y.rL,v,none⟩) h.ok.lC.symm _),(h.rO.far (p:=⟨y.rL,v,none⟩) (h.rO.ne_ h.rL (by decide)) _),(h.stk.setCell (p:=⟨y.rL,v,none⟩) (h.svD h.ok.dL) _),(h.siz.setCell (p:=⟨y.rL,v,none⟩) (h.zvD h.ok.dL) _),h.apart⟩
theorem TAt.setC (h:TAt y B D A c root vs ns w s sv zv) (v:Nat) (x:Int):TAt y B D A c root vs ns (w.setCell ⟨y.rC,v,none⟩ (.int .i64 x)) {s with inn:=s.inn.set v x} sv zv:=
 ⟨h.ok,by simp[World.setCell];exact h.hd,(h.xI.far (p:=⟨y.rC,v,none⟩) (h.xI.ne_ h.rC (by decide)) _),(h.xL.far (p:=⟨y.rC,v,none⟩) (h.xL.ne_ h.rC (by decide)) _),(h.xC.far (p:=⟨y.rC,v,none⟩) (h.xC.ne_ h.rC (by decide)) _),(h.xO.far (p:=⟨y.rC,v,none⟩) (h.xO.ne_ h.rC (by decide)) _),(h.xV.far (p:=⟨y.rC,v,none⟩) (h.xV.ne_ h.rC (by decide)) _),(h.xG.far (p:=⟨y.rC,v,none⟩) (h.xG.ne_ h.rC (by decide)) _),(h.at_.below ((Below.refl _ w).setCell (p:=⟨y.rC,v,none⟩) h.ok.lo.2.2.2.1 _)),(h.bN.far (p:=⟨y.rC,v,none⟩) h.ok.nC _),(h.bS.far (p:=⟨y.rC,v,none⟩) (h.bS.ne_ h.rC (by decide)) _),(h.bZ.far (p:=⟨y.rC,v,none⟩) (h.bZ.ne_ h.rC (by decide)) _),(h.rI.far (p:=⟨y.rC,v,none⟩) h.ok.iC _),(h.rL.far (p:=⟨y.rC,v,none⟩) h.ok.lC _),(by have:=h.rC.set_ v (.int .i64 x);rw[zf1]at this;exact this),(h.rO.far (p:=⟨y.rC,v,none⟩) (h.rO.ne_ h.rC (by decide)) _),(h.stk.setCell (p:=⟨y.rC,v,none⟩) (h.svD h.ok.dC) _),(h.siz.setCell (p:=⟨y.rC,v,none⟩) (h.zvD h.ok.dC) _),h.apart⟩
theorem TAt.setO (h:TAt y B D A c root vs ns w s sv zv) (v:Nat) (b:Bool):TAt y B D A c root vs ns (w.setCell ⟨y.rO,v,none⟩ (.bool b)) {s with on:=s.on.set v b} sv zv:=
 ⟨h.ok,by simp[World.setCell];exact h.hd,(h.xI.far (p:=⟨y.rO,v,none⟩) (h.xI.ne_ h.rO (by decide)) _),(h.xL.far (p:=⟨y.rO,v,none⟩) (h.xL.ne_ h.rO (by decide)) _),(h.xC.far (p:=⟨y.rO,v,none⟩) (h.xC.ne_ h.rO (by decide)) _),(h.xO.far (p:=⟨y.rO,v,none⟩) (h.xO.ne_ h.rO (by decide)) _),(h.xV.far (p:=⟨y.rO,v,none⟩) (h.xV.ne_ h.rO (by decide)) _),(h.xG.far (p:=⟨y.rO,v,none⟩) (h.xG.ne_ h.rO (by decide)) _),(h.at_.below ((Below.refl _ w).setCell (p:=⟨y.rO,v,none⟩) h.ok.lo.2.2.2.2.1 _)),(h.bN.far (p:=⟨y.rO,v,none⟩) (h.bN.ne_ h.rO (by decide)) _),(h.bS.far (p:=⟨y.rO,v,none⟩) (h.bS.ne_ h.rO (by decide)) _),(h.bZ.far (p:=⟨y.rO,v,none⟩) (h.bZ.ne_ h.rO (by decide)) _),(h.rI.far (p:=⟨y.rO,v,none⟩) (h.rI.ne_ h.rO (by decide)) _),(h.rL.far (p:=⟨y.rO,v,none⟩) (h.rL.ne_ h.rO (by decide)) _),(h.rC.far (p:=⟨y.rO,v,none⟩) (h.rC.ne_ h.rO (by decide)) _),(by have:=h.rO.set_ v (.bool b);rw[zby]at this;exact this),(h.stk.setCell (p:=⟨y.rO,v,none⟩) (h.svD h.ok.dO) _),(h.siz.setCell (p:=⟨y.rO,v,none⟩) (h.zvD h.ok.dO) _),h.apart⟩
theorem TAt.setS (h:TAt y B D A c root vs ns w s sv zv) {sv2:Value} {l:List Nat} (ho:OwnRow intL w D 3 sv2 l) (hap:∀k,sv2.ownBlock=some k->zv.ownBlock≠some k):TAt y B D A c root vs ns (w.setCell ⟨y.bS,0,none⟩ sv2) {s with stk:=l} sv2 zv:=
 ⟨h.ok,by simp[World.setCell];exact h.hd,(h.xI.far (p:=⟨y.bS,0,none⟩) h.ok.sI.symm _),(h.xL.far (p:=⟨y.bS,0,none⟩) h.ok.sL.symm _),(h.xC.far (p:=⟨y.bS,0,none⟩) h.ok.sC.symm _),(h.xO.far (p:=⟨y.bS,0,none⟩) (h.xO.ne_ h.bS (by decide)) _),(h.xV.far (p:=⟨y.bS,0,none⟩) (h.xV.ne_ h.bS (by decide)) _),(h.xG.far (p:=⟨y.bS,0,none⟩) (h.xG.ne_ h.bS (by decide)) _),(h.at_.below ((Below.refl _ w).setCell (p:=⟨y.bS,0,none⟩) h.ok.lo.2.2.2.2.2.1 _)),(h.bN.far (p:=⟨y.bS,0,none⟩) (h.bN.ne_ h.bS (by decide)) _),(h.bS.set_ 0 _),(h.bZ.far (p:=⟨y.bS,0,none⟩) h.ok.sZ.symm _),(h.rI.far (p:=⟨y.bS,0,none⟩) (h.rI.ne_ h.bS (by decide)) _),(h.rL.far (p:=⟨y.bS,0,none⟩) (h.rL.ne_ h.bS (by decide)) _),(h.rC.far (p:=⟨y.bS,0,none⟩) (h.rC.ne_ h.bS (by decide)) _),(h.rO.far (p:=⟨y.bS,0,none⟩) (h.rO.ne_ h.bS (by decide)) _),(ho.setCell (p:=⟨y.bS,0,none⟩) (fun e=>absurd (show D<=y.bS from(ho.lt _ e).1) (by have:=h.ok.dS;omega)) _),(h.siz.setCell (p:=⟨y.bS,0,none⟩) (h.zvD h.ok.dS) _),hap⟩
theorem zsn (g n c m:Nat) (hm:m<=c) (w:World):(Instr.slice 33 (.slice (some ⟨g,0,none⟩) n c) none (some (.int .i64 (m:Int))) none).run prog w=.ok (.slice (some ⟨g,0,none⟩) m c) w:=by
 obtain⟨b,a,_,_,_⟩:=info_parts infoInt;rw[run_slice_h (P:=prog) 33 3 b underlying33 a (some ⟨g,0,none⟩) n c m hm w];split<;>simp[Addr.add]
theorem OwnRow.shape {α:Type} {L:Lay α} {w:World} {base:Nat} {E:TypeId} {v:Value} {l:List α} (h:OwnRow L w base E v l) (hl:l≠[]):∃g cap,v=.slice (some ⟨g,0,none⟩) l.length cap/\l.length<=cap:=by
 rcases h.2 with⟨_,hn⟩|⟨g,cap,cur,a,hbg,hh,b,hm,hcs,htk⟩
 ·grind
 ·exact⟨g,cap,a,b⟩
theorem OwnRow.drop1 {α:Type} {L:Lay α} {w:World} {base:Nat} {E:TypeId} {g cap n:Nat} {l:List α} {x:α} (h:OwnRow L w base E (.slice (some ⟨g,0,none⟩) n cap) (l++[x])):OwnRow L w base E (.slice (some ⟨g,0,none⟩) l.length cap) l:=by
 rcases h.2 with⟨e,_⟩|⟨g',cap',a,e,d,j,k,m,f,b⟩
 ·cases e
 ·injection e with e1 e2 e3
  injection e1 with e1
  injection e1 with e1
  subst e1;subst e3;rw[List.length_append,List.length_cons,List.length_nil]at k b;refine⟨L.all_len l,.inr ⟨g,cap,a,rfl,d,j,by omega,m,f,?_⟩⟩;have i:(a.toList.take ((l.length+(0+1))*L.sz)).take (l.length*L.sz)=(L.all (l++[x])).take (l.length*L.sz):=by rw[b]
  rw[List.take_take,L.all_append]at i;rw[show min (l.length*L.sz) ((l.length+(0+1))*L.sz)=l.length*L.sz from by rw[Nat.add_mul];omega]at i;rw[i,List.take_append_of_le_length (by rw[L.all_len];exact Nat.le_refl _),List.take_of_length_le (by rw[L.all_len];exact Nat.le_refl _)]
theorem OwnRow.off {α:Type} {L:Lay α} {w w2:World} {base:Nat} {E:TypeId} {v:Value} {l:List α} {row:Option Nat} (h:OwnRow L w base E v l) (hg:w.grownBy w2 row) (hne:∀k,v.ownBlock=some k->some k≠row):OwnRow L w2 base E v l:=by
 have f:=h.lt;refine⟨h.1,h.2.imp id ?_⟩;rintro⟨g,a,d,i,b,j,r⟩;have e:v.ownBlock=some g:=by rw[i];rfl
 exact⟨g,a,d,i,b,(hg.block g (f g e).2 (hne g e)).trans j,r⟩
theorem TAt.grownS (h:TAt y B D A c root vs ns w s sv zv) {w2:World} {sv2:Value} {l:List Nat} (ho:OwnRow intL w2 D 3 sv2 l) (hg:w.grownBy w2 sv.ownBlock) (hat:sv2.ownBlock=sv.ownBlock\/sv2.ownBlock=some w.heap.size):
 TAt y B D A c root vs ns (w2.setCell ⟨y.bS,0,none⟩ sv2) {s with stk:=l} sv2 zv:=by
 have d:∀{g:Nat} {t:TypeId} {cs:Array Value},Blk w g t cs->g<D->Blk w2 g t cs:=fun f m=>f.grown hg (fun e=>h.svD m e.symm)
 have a:∀{g:Nat} {t:TypeId} {cs:Array Value},Blk w g t cs->3≠t->Blk w2 g t cs:=fun f m=>f.grown hg (fun e=>zbw h.stk f m e.symm)
 have b:Below D w w2:=h.stk.grown_below hg h.hd;have q:OwnRow intL w2 D 3 zv s.sizes:=h.siz.off hg (fun k e i=>h.apart k i.symm e);have o:TAt y B D A c root vs ns w2 {s with stk:=s.stk} sv2 zv\/True:=.inr trivial;clear o;have j:∀k,sv2.ownBlock=some k->zv.ownBlock≠some k:=fun k e i=>by
  rcases hat with h1|h1
  ·exact h.apart k (h1.symm.trans e) i
  ·have:=(h.siz.lt k i).2;rw[h1]at e;injection e with e
   omega
 have n:=hg.size;exact⟨h.ok,by simp[World.setCell];exact Nat.le_trans h.hd n,((a h.xI (by decide)).far (p:=⟨y.bS,0,none⟩) h.ok.sI.symm _),((a h.xL (by decide)).far (p:=⟨y.bS,0,none⟩) h.ok.sL.symm _),((a h.xC (by decide)).far (p:=⟨y.bS,0,none⟩) h.ok.sC.symm _),((a h.xO (by decide)).far (p:=⟨y.bS,0,none⟩) (h.xO.ne_ h.bS (by decide)) _),((a h.xV (by decide)).far (p:=⟨y.bS,0,none⟩) (h.xV.ne_ h.bS (by decide)) _),((a h.xG (by decide)).far (p:=⟨y.bS,0,none⟩) (h.xG.ne_ h.bS (by decide)) _),(h.at_.below (b.mono h.ok.lo.2.2.2.2.2.2.2)).below ((Below.refl _ w2).setCell (p:=⟨y.bS,0,none⟩) h.ok.lo.2.2.2.2.2.1 _),((d h.bN h.ok.dN).far (p:=⟨y.bS,0,none⟩) (h.bN.ne_ h.bS (by decide)) _),((a h.bS (by decide)).set_ 0 _),((a h.bZ (by decide)).far (p:=⟨y.bS,0,none⟩) h.ok.sZ.symm _),((d h.rI h.ok.dI).far (p:=⟨y.bS,0,none⟩) (h.rI.ne_ h.bS (by decide)) _),((d h.rL h.ok.dL).far (p:=⟨y.bS,0,none⟩) (h.rL.ne_ h.bS (by decide)) _),((d h.rC h.ok.dC).far (p:=⟨y.bS,0,none⟩) (h.rC.ne_ h.bS (by decide)) _),((a h.rO (by decide)).far (p:=⟨y.bS,0,none⟩) (h.rO.ne_ h.bS (by decide)) _),
  (ho.setCell (p:=⟨y.bS,0,none⟩) (fun e=>absurd (show D<=y.bS from(ho.lt _ e).1) (by have:=h.ok.dS;omega)) _),(q.setCell (p:=⟨y.bS,0,none⟩) (h.zvD h.ok.dS) _),j⟩
theorem TAt.grownZ (h:TAt y B D A c root vs ns w s sv zv) {w2:World} {zv2:Value} {l:List Nat} (ho:OwnRow intL w2 D 3 zv2 l) (hg:w.grownBy w2 zv.ownBlock) (hat:zv2.ownBlock=zv.ownBlock\/zv2.ownBlock=some w.heap.size):
 TAt y B D A c root vs ns (w2.setCell ⟨y.bZ,0,none⟩ zv2) {s with sizes:=l} sv zv2:=by
 have f:∀{g:Nat} {t:TypeId} {cs:Array Value},Blk w g t cs->g<D->Blk w2 g t cs:=fun i m=>i.grown hg (fun e=>h.zvD m e.symm)
 have a:∀{g:Nat} {t:TypeId} {cs:Array Value},Blk w g t cs->3≠t->Blk w2 g t cs:=fun i m=>i.grown hg (fun e=>zbw h.siz i m e.symm)
 have d:Below D w w2:=h.siz.grown_below hg h.hd;have o:OwnRow intL w2 D 3 sv s.stk:=h.stk.off hg (fun k e b=>h.apart k e b.symm);have j:∀k,sv.ownBlock=some k->zv2.ownBlock≠some k:=fun k e b=>by
  rcases hat with h1|h1
  ·exact h.apart k e (h1.symm.trans b)
  ·have:=(h.stk.lt k e).2;rw[h1]at b;injection b with b
   omega
 have n:=hg.size;exact⟨h.ok,by simp[World.setCell];exact Nat.le_trans h.hd n,((a h.xI (by decide)).far (p:=⟨y.bZ,0,none⟩) h.ok.zI.symm _),((a h.xL (by decide)).far (p:=⟨y.bZ,0,none⟩) h.ok.zL.symm _),((a h.xC (by decide)).far (p:=⟨y.bZ,0,none⟩) h.ok.zC.symm _),((a h.xO (by decide)).far (p:=⟨y.bZ,0,none⟩) (h.xO.ne_ h.bZ (by decide)) _),((a h.xV (by decide)).far (p:=⟨y.bZ,0,none⟩) (h.xV.ne_ h.bZ (by decide)) _),((a h.xG (by decide)).far (p:=⟨y.bZ,0,none⟩) (h.xG.ne_ h.bZ (by decide)) _),(h.at_.below (d.mono h.ok.lo.2.2.2.2.2.2.2)).below ((Below.refl _ w2).setCell (p:=⟨y.bZ,0,none⟩) h.ok.lo.2.2.2.2.2.2.1 _),((f h.bN h.ok.dN).far (p:=⟨y.bZ,0,none⟩) (h.bN.ne_ h.bZ (by decide)) _),((a h.bS (by decide)).far (p:=⟨y.bZ,0,none⟩) h.ok.sZ _),((a h.bZ (by decide)).set_ 0 _),((f h.rI h.ok.dI).far (p:=⟨y.bZ,0,none⟩) (h.rI.ne_ h.bZ (by decide)) _),((f h.rL h.ok.dL).far (p:=⟨y.bZ,0,none⟩) (h.rL.ne_ h.bZ (by decide)) _),((f h.rC h.ok.dC).far (p:=⟨y.bZ,0,none⟩) (h.rC.ne_ h.bZ (by decide)) _),((a h.rO (by decide)).far (p:=⟨y.bZ,0,none⟩) (h.rO.ne_ h.bZ (by decide)) _),
  (o.setCell (p:=⟨y.bZ,0,none⟩) (h.svD h.ok.dZ) _),(ho.setCell (p:=⟨y.bZ,0,none⟩) (fun e=>absurd (show D<=y.bZ from(ho.lt _ e).1) (by have:=h.ok.dZ;omega)) _),j⟩
end
open _root_.Go.Lib (hid)
set_option maxRecDepth 100000
set_option maxHeartbeats 16000000
structure TF (y:TL) (sv zv:Value) (w w':World) (sv' zv':Value):Prop where
 os:w'.os=w.os
 tape:w'.tape=w.tape
 output:w'.output=w.output
 size:w.heap.size<=w'.heap.size
 block:∀k,k<w.heap.size->k≠y.bN->k≠y.rI->k≠y.rL->k≠y.rC->k≠y.rO->k≠y.bS->k≠y.bZ->sv.ownBlock≠some k->zv.ownBlock≠some k->w'.heap[k]? =w.heap[k]?
 fs:∀k,sv'.ownBlock=some k->sv.ownBlock=some k\/w.heap.size<=k
 fz:∀k,zv'.ownBlock=some k->zv.ownBlock=some k\/w.heap.size<=k
section
variable {y:TL} {sv zv sv' zv' sv2 zv2:Value} {w w' w2:World}
theorem TF.refl (y:TL) (sv zv:Value) (w:World):TF y sv zv w w sv zv:=⟨rfl,rfl,rfl,Nat.le_refl _,fun _ _ _ _ _ _ _ _ _ _ _=>rfl,fun _ h=>.inl h,fun _ h=>.inl h⟩
theorem TF.trans (h:TF y sv zv w w' sv' zv') (h2:TF y sv' zv' w' w2 sv2 zv2):TF y sv zv w w2 sv2 zv2:=by
 refine⟨h2.os.trans h.os,h2.tape.trans h.tape,h2.output.trans h.output,Nat.le_trans h.size h2.size,?_,?_,?_⟩
 ·intro k b i d m j l f g n a;refine(h2.block k (Nat.lt_of_lt_of_le b h.size) i d m j l f g (fun e=>?_) (fun e=>?_)).trans (h.block k b i d m j l f g n a)
  ·rcases h.fs k e with h3|h3
   ·exact n h3
   ·omega
  ·rcases h.fz k e with h3|h3
   ·exact a h3
   ·omega
 ·intro k e;rcases h2.fs k e with h3|h3
  ·exact h.fs k h3
  ·exact .inr (Nat.le_trans h.size h3)
 ·intro k e;rcases h2.fz k e with h3|h3
  ·exact h.fz k h3
  ·exact .inr (Nat.le_trans h.size h3)
theorem TF.of_below (hb:Below w.heap.size w w'):TF y sv zv w w' sv zv:=⟨hb.os,hb.tape,hb.output,hb.size,fun k a _ _ _ _ _ _ _ _ _=>hb.block k a,fun _ h=>.inl h,fun _ h=>.inl h⟩
theorem TF.alloc (h:TF y sv zv w w' sv' zv') (o:Obj):TF y sv zv w (w'.alloc o) sv' zv':=h.trans (TF.of_below ((Below.refl _ _).alloc (Nat.le_refl _) o))
theorem TF.drewN (h:TF y sv zv w w' sv' zv') (n:Nat):TF y sv zv w (w'.drewN n) sv' zv':=h.trans (TF.of_below (below_drewN (Below.refl _ _) n))
theorem TF.drew (h:TF y sv zv w w' sv' zv'):TF y sv zv w w'.drew sv' zv':=h.drewN 1
theorem TF.set (h:TF y sv zv w w' sv' zv') (g i:Nat) (hg:g=y.bN\/g=y.rI\/g=y.rL\/g=y.rC\/g=y.rO\/g=y.bS\/g=y.bZ) (u:Value):TF y sv zv w (w'.setCell ⟨g,i,none⟩ u) sv' zv':=by
 refine h.trans ⟨rfl,rfl,rfl,by simp[World.setCell],?_,fun _ h=>.inl h,fun _ h=>.inl h⟩;intro k _ a1 a2 a3 a4 a5 a6 a7 _ _;refine Below.heap_setCell _ _ _ _ ?_;show k≠g;rcases hg with rfl|rfl|rfl|rfl|rfl|rfl|rfl<;>assumption
theorem TF.blk (h:TF y sv zv w w' sv' zv') {k:Nat} {t:TypeId} {cs:Array Value} (hb:Blk w k t cs) (a1:k≠y.bN) (a2:k≠y.rI) (a3:k≠y.rL) (a4:k≠y.rC) (a5:k≠y.rO) (a6:k≠y.bS) (a7:k≠y.bZ) (a8:sv.ownBlock≠some k) (a9:zv.ownBlock≠some k):Blk w' k t cs:=
 (h.block k hb.lt a1 a2 a3 a4 a5 a6 a7 a8 a9).trans hb
end
theorem TF.grownS {B D:Nat} {A:Option Addr} {c:Nat} {root:Int} {vs:List NV} {ns:List Gr.Nd} {s:Gr.TS} {y:TL} {sv zv sv2:Value} {w w2:World} (_h:TAt y B D A c root vs ns w s sv zv) (hg:w.grownBy w2 sv.ownBlock) (hat:sv2.ownBlock=sv.ownBlock\/sv2.ownBlock=some w.heap.size):
 TF y sv zv w (w2.setCell ⟨y.bS,0,none⟩ sv2) sv2 zv:=by
 have a:Below 0 w w2:=(Below.refl 0 w).grown hg (Nat.zero_le _) (fun _ _=>Nat.zero_le _);have h1:TF y sv zv w w2 sv2 zv:=⟨a.os,a.tape,a.output,a.size,fun k b _ _ _ _ _ _ _ d _=>hg.block k b (fun e=>d e.symm),fun k e=>by
  rcases hat with h1|h1
  ·exact .inl (h1.symm.trans e)
  ·right;rw[h1]at e;injection e with e;omega,fun _ e=>.inl e⟩
 exact h1.set y.bS 0 (by simp) _
theorem TF.grownZ {B D:Nat} {A:Option Addr} {c:Nat} {root:Int} {vs:List NV} {ns:List Gr.Nd} {s:Gr.TS} {y:TL} {sv zv zv2:Value} {w w2:World} (_h:TAt y B D A c root vs ns w s sv zv) (hg:w.grownBy w2 zv.ownBlock) (hat:zv2.ownBlock=zv.ownBlock\/zv2.ownBlock=some w.heap.size):
 TF y sv zv w (w2.setCell ⟨y.bZ,0,none⟩ zv2) sv zv2:=by
 have a:Below 0 w w2:=(Below.refl 0 w).grown hg (Nat.zero_le _) (fun _ _=>Nat.zero_le _);have h1:TF y sv zv w w2 sv zv2:=⟨a.os,a.tape,a.output,a.size,fun k d _ _ _ _ _ _ _ _ b=>hg.block k d (fun e=>b e.symm),fun _ e=>.inl e,fun k e=>by
  rcases hat with h1|h1
  ·exact .inl (h1.symm.trans e)
  ·right;rw[h1]at e;injection e with e;omega⟩
 exact h1.set y.bZ 0 (by simp) _
structure ABox (y:TL) (D:Nat) (w:World) (sv zv:Value) (bA v:Nat):Prop where
 b:Blk w bA 3 #[.int .i64 (v:Int)]
 hi:D<=bA
 s:sv.ownBlock≠some bA
 z:zv.ownBlock≠some bA
theorem ABox.kept {y:TL} {B D:Nat} {w w':World} {sv zv sv' zv':Value} {bA v:Nat} (h:ABox y D w sv zv bA v) (ok:TLok y B D) (hf:TF y sv zv w w' sv' zv'):ABox y D w' sv' zv' bA v:=by
 have hhi:=h.hi;have hlt:=h.b.lt;have:=ok.dN;have:=ok.dI;have:=ok.dL;have:=ok.dC;have:=ok.dO;have:=ok.dS;have:=ok.dZ;refine⟨hf.blk h.b (by omega) (by omega) (by omega) (by omega) (by omega) (by omega) (by omega) h.s h.z,h.hi,fun e=>?_,fun e=>?_⟩
 ·rcases hf.fs _ e with h1|h1
  ·exact h.s h1
  ·omega
 ·rcases hf.fz _ e with h1|h1
  ·exact h.z h1
  ·omega
def TPost (y:TL) (B D:Nat) (A:Option Addr) (c:Nat) (root:Int) (vs:List NV) (ns:List Gr.Nd) (w:World) (sv zv:Value) (s':Gr.TS) (e:Ending) (w':World):Prop:=
 e=.returned (.tuple #[])/\∃sv' zv',TAt y B D A c root vs ns w' s' sv' zv'/\TF y sv zv w w' sv' zv'
section
variable {y:TL} {B D:Nat} {A:Option Addr} {c:Nat} {root:Int} {vs:List NV} {ns:List Gr.Nd}
theorem zvk (w:World) (s:Gr.TS) (sv zv:Value) (bA v x:Nat) (h:TAt y B D A c root vs ns w s sv zv) (hA:ABox y D w sv zv bA v) (_hl:ns.length<=1073741823) (hv:v<ns.length) (hx:x<ns.length) (li:s.idx.length=ns.length) (ll:s.low.length=ns.length) (lo:s.on.length=ns.length)
 (hi:s.ix x≠0) (hon:s.onn x=true) (_hb1:s.lw v<=1073741824) (_hb2:s.ix x<=1073741824):
 Calls prog 86 #[.int .i64 x,.pointer (some ⟨y.bI,0,none⟩),.pointer (some ⟨y.bV,0,none⟩),.pointer (some ⟨y.bL,0,none⟩),.pointer (some ⟨bA,0,none⟩),.pointer (some ⟨y.bO,0,none⟩)] w (TPost y B D A c root vs ns w sv zv (s.lower v (s.ix x))):=by
 have i0:w.cell? ⟨y.bI,0,none⟩=some (.slice (some ⟨y.rI,0,none⟩) ns.length ns.length):=h.xI.cell 0;have l0:w.cell? ⟨y.bL,0,none⟩=some (.slice (some ⟨y.rL,0,none⟩) ns.length ns.length):=h.xL.cell 0;have o0:w.cell? ⟨y.bO,0,none⟩=some (.slice (some ⟨y.rO,0,none⟩) ns.length ns.length):=h.xO.cell 0;have a0:w.cell? ⟨bA,0,none⟩=some (.int .i64 (v:Int)):=hA.b.cell 0;obtain⟨p,a⟩:=ex (s.ix x)
 obtain⟨q,d⟩:=ex (s.lw v)
 have ix:w.cell? ⟨y.rI,x,none⟩=some (.int .i64 (p:Int)):=by rw[h.rI.cell,zad (by omega),<-a];rfl
 have lv:w.cell? ⟨y.rL,v,none⟩=some (.int .i64 (q:Int)):=by rw[h.rL.cell,zad (by omega),<-d];rfl
 have ox:w.cell? ⟨y.rO,x,none⟩=some (.bool true):=by rw[h.rO.cell,zah (by omega)];show some (Value.bool (s.onn x))=_;rw[hon]
 have lf:∀i,w.frozen? ⟨y.rL,i,none⟩=false:=h.rL.frozen;have hvI:(v:Int)<(ns.length:Int):=by omega
 have hxI:(x:Int)<(ns.length:Int):=by omega
 rw[a]at hi _hb2;rw[d]at _hb1;have e:¬((p:Int)=0):=by omega
 have hpb:((p:Int)==0)=false:=by simpa using e
 have f:Hid (s.lower v p={s with low:=s.low.set v (min q p)}):=hid (by unfold Gr.TS.lower;rw[d]);have H:=hid h;rw[a];clear h hA hon a d;go_enter func86,ntmps86;go_upto_region 4 with fail;go_region
 all_goals go_wp2_with fail
 all_goals
  go_end0;refine⟨rfl,sv,zv,?_,((TF.refl _ _ _ _).set y.rL v (by simp) _).drew⟩;rw[f.out]
  first
   | (rw[show min q p=q from by omega];exact(H.out.setL v q).drew)
   | (rw[show min (q:Int) (p:Int)=((min q p:Nat):Int)from by omega];exact(H.out.setL v (min q p)).drew)
   | (rw[show min q p=p from by omega];exact(H.out.setL v p).drew)
theorem zso (w:World) (s:Gr.TS) (sv zv:Value) (bA x:Nat) (h:TAt y B D A c root vs ns w s sv zv) (_hl:ns.length<=1073741823) (hx:x<ns.length) (li:s.idx.length=ns.length) (lo:s.on.length=ns.length)
 (hi:s.ix x≠0) (hon:s.onn x=false) (_hb2:s.ix x<=1073741824):
 Calls prog 86 #[.int .i64 x,.pointer (some ⟨y.bI,0,none⟩),.pointer (some ⟨y.bV,0,none⟩),.pointer (some ⟨y.bL,0,none⟩),.pointer (some ⟨bA,0,none⟩),.pointer (some ⟨y.bO,0,none⟩)] w (TPost y B D A c root vs ns w sv zv s):=by
 have i0:w.cell? ⟨y.bI,0,none⟩=some (.slice (some ⟨y.rI,0,none⟩) ns.length ns.length):=h.xI.cell 0;have o0:w.cell? ⟨y.bO,0,none⟩=some (.slice (some ⟨y.rO,0,none⟩) ns.length ns.length):=h.xO.cell 0;obtain⟨p,b⟩:=ex (s.ix x)
 have ix:w.cell? ⟨y.rI,x,none⟩=some (.int .i64 (p:Int)):=by rw[h.rI.cell,zad (by omega),<-b];rfl
 have ox:w.cell? ⟨y.rO,x,none⟩=some (.bool false):=by rw[h.rO.cell,zah (by omega)];show some (Value.bool (s.onn x))=_;rw[hon]
 have hxI:(x:Int)<(ns.length:Int):=by omega
 rw[b]at hi _hb2;have a:¬((p:Int)=0):=by omega
 have hpb:((p:Int)==0)=false:=by simpa using a
 have H:=hid h;clear h hon b;go_enter func86,ntmps86;go_wp2_with fail;go_end0;exact⟨rfl,sv,zv,H.out,TF.refl _ _ _ _⟩
theorem zsp (w:World) (s s2:Gr.TS) (sv zv:Value) (bA v x:Nat) (h:TAt y B D A c root vs ns w s sv zv) (hA:ABox y D w sv zv bA v) (_hl:ns.length<=1073741823) (hv:v<ns.length) (hx:x<ns.length) (li:s.idx.length=ns.length) (ll:s2.low.length=ns.length)
 (hi:s.ix x=0) (_hb1:s2.lw v<=1073741824) (_hb2:s2.lw x<=1073741824) (hcall:Calls prog 85 (y.args (.int .i64 x)) w (TPost y B D A c root vs ns w sv zv s2)):
 Calls prog 86 #[.int .i64 x,.pointer (some ⟨y.bI,0,none⟩),.pointer (some ⟨y.bV,0,none⟩),.pointer (some ⟨y.bL,0,none⟩),.pointer (some ⟨bA,0,none⟩),.pointer (some ⟨y.bO,0,none⟩)] w (TPost y B D A c root vs ns w sv zv (s2.lower v (s2.lw x))):=by
 have t:w.cell? ⟨y.bI,0,none⟩=some (.slice (some ⟨y.rI,0,none⟩) ns.length ns.length):=h.xI.cell 0;have m:w.cell? ⟨y.bV,0,none⟩=some y.fn:=h.xV.cell 0;have ix:w.cell? ⟨y.rI,x,none⟩=some (.int .i64 0):=by rw[h.rI.cell,zad (by omega)];show some (Value.int .i64 ((s.ix x:Nat):Int))=_;rw[hi];rfl
 have hvI:(v:Int)<(ns.length:Int):=by omega
 have hxI:(x:Int)<(ns.length:Int):=by omega
 have n:=hid hcall;have u:=hid hA;obtain⟨p,k⟩:=ex (s2.lw x)
 obtain⟨q,g⟩:=ex (s2.lw v)
 have o:=hid k;have z:=hid g;have r:Hid (s2.lower v p={s2 with low:=s2.low.set v (min q p)}):=hid (by unfold Gr.TS.lower;rw[g]);have l:=hid h.ok;rw[k]at _hb2 ⊢;rw[g]at _hb1;unfold TL.fn at m;unfold TL.args at n;clear h hA hcall k g;go_enter func86,ntmps86;go_wp2_with fail;refine n.out.mono ?_;rintro e w2 ⟨rfl,sv2,zv2,d,a⟩;have f:=u.out.kept l.out a;have l0:w2.cell? ⟨y.bL,0,none⟩=some (.slice (some ⟨y.rL,0,none⟩) ns.length ns.length):=d.xL.cell 0;have a0:w2.cell? ⟨bA,0,none⟩=some (.int .i64 (v:Int)):=f.b.cell 0;have lx:w2.cell? ⟨y.rL,x,none⟩=some (.int .i64 (p:Int)):=by rw[d.rL.cell,zad (by omega),<-o.out];rfl
 have lv:w2.cell? ⟨y.rL,v,none⟩=some (.int .i64 (q:Int)):=by rw[d.rL.cell,zad (by omega),<-z.out];rfl
 have lf:∀i,w2.frozen? ⟨y.rL,i,none⟩=false:=d.rL.frozen;have H:=hid d;have j:=hid a;clear t m ix d a f;go_upto_region 2 with fail;go_region
 all_goals go_wp2_with fail
 all_goals
  go_end0;refine⟨rfl,sv2,zv2,?_,(j.out.set y.rL v (by simp) _).drew⟩;rw[r.out]
  first
   | (rw[show min q p=q from by omega];exact(H.out.setL v q).drew)
   | (rw[show min (q:Int) (p:Int)=((min q p:Nat):Int)from by omega];exact(H.out.setL v (min q p)).drew)
   | (rw[show min q p=p from by omega];exact(H.out.setL v p).drew)
end
open Gr
theorem zoq (x:Gr.Dn) (A:Option Addr) (c:Nat) (hl:x.d.length<=1073741823) (w:World):
 Calls prog 112 #[.agg #[.bool x.neg,.slice A x.d.length c,.int .i64 x.e]] w fun e w'=>e=.returned (.int .i64 (lim x:Nat))/\Below w.heap.size w w':=by
 obtain⟨neg,d,e⟩:=x;simp only at hl ⊢;have g:Below w.heap.size w (w.alloc (.cells #[.bool neg,.slice A d.length c,.int .i64 e] 125)):=(Below.refl _ _).alloc (Nat.le_refl _) _;have b:=hid g;clear g;by_cases h1:400<d.length
 ·have a:Hid (lim ⟨neg,d,e⟩=6):=hid (by unfold lim;rw[if_pos h1]);have f:(400:Int)<(d.length:Int):=by omega
  go_enter func112,ntmps112;go_wp2;go_ret;rw[a.out];exact⟨rfl,b.out⟩
 ·have f:¬(400:Int)<(d.length:Int):=by omega
  by_cases h2:e< -2000
  ·have a:Hid (lim ⟨neg,d,e⟩=2):=hid (by unfold lim;rw[if_neg h1,if_pos (.inl h2)]);go_enter func112,ntmps112;go_wp2;go_ret;rw[a.out];exact⟨rfl,b.out⟩
  ·by_cases h3:2000<e
   ·have a:Hid (lim ⟨neg,d,e⟩=2):=hid (by unfold lim;rw[if_neg h1,if_pos (.inr h3)]);go_enter func112,ntmps112;go_wp2;go_ret;rw[a.out];exact⟨rfl,b.out⟩
   ·have a:Hid (lim ⟨neg,d,e⟩=0):=hid (by unfold lim;rw[if_neg h1,if_neg (fun h=>h.elim h2 h3)]);go_enter func112,ntmps112;go_wp2;go_ret;rw[a.out];exact⟨rfl,b.out⟩
def signS (neg:Bool):Gr.Str:=if neg=true then[45]else[]
theorem zsb (neg:Bool) (A:Option Addr) (n c:Nat) (e:Int) (w:World):
 Calls prog 172 #[.agg #[.bool neg,.slice A n c,.int .i64 e]] w fun e' w'=>e'=.returned (.string ⟨(signS neg).toArray⟩)/\Below w.heap.size w w':=by
 have a:Below w.heap.size w (w.alloc (.cells #[.bool neg,.slice A n c,.int .i64 e] 125)):=(Below.refl _ _).alloc (Nat.le_refl _) _;have b:=hid a;clear a;cases neg
 all_goals
  go_enter func172,ntmps172;go_wp2;go_ret;exact⟨rfl,b.out⟩
theorem zdt (w:World) (s:List UInt8) (A:Option Addr) (c:Nat) {B:Nat} (h:RowAt byteL w B A s):(convert 119 9 (.slice A s.length c)).run prog w=.ok (.string ⟨s.toArray⟩) w:=by
 cases s with
 |nil=>
  cases A with
  |none=>exact run_convert_bytes_nil (P:=prog) w 119 5 underlying119 underlying5 0 c 9 underlying9
  |some a=>exact run_convert_bytes_back (P:=prog) w 119 9 5 a c [] underlying119 underlying5 underlying9 (fun j d=>by simp at d)
 |cons b r=>
  obtain⟨f,rfl,_,_⟩:=h.get (k:=0) (by simp);refine run_convert_bytes_back (P:=prog) w 119 9 5 f c (b::r) underlying119 underlying5 underlying9 (fun j d=>?_);obtain⟨ad',e,_,g,_⟩:=h.get d;cases e;have:=g _ rfl;simpa[byteL]using this
theorem zlw (neg:Bool) (A:Option Addr) (d:List Nat) (c:Nat) (E:Int) (hl:d.length<=1073741823) (hd:∀v∈d,v<10) (w:World) (h:RowAt byteL w w.heap.size A (d8 d)):
 Calls prog 173 #[.agg #[.bool neg,.slice A d.length c,.int .i64 E]] w fun e' w'=>e'=.returned (.string ⟨(d.map Gr.ch).toArray⟩)/\Below w.heap.size w w':=by
 have J:=fun W=>zcq d.length (by omega) W
 have O:=hid hd;have m:=hid h;clear hd h;go_enter func173,ntmps173;go_upto_region 2 with fail;obtain⟨F,b⟩:=ex (w.alloc (.cells #[.bool neg,.slice A d.length c,.int .i64 E] 125))
 have r:Blk F w.heap.size 125 #[.bool neg,.slice A d.length c,.int .i64 E]:=by rw[<-b];exact Blk.new _ _ _
 have n:Below w.heap.size w F:=by rw[<-b];exact(Below.refl _ _).alloc (Nat.le_refl _) _
 have e:F.heap.size=w.heap.size+1:=by rw[<-b];simp
 obtain⟨a,g⟩:=ex w.heap.size
 (try rw[b]);(try rw[g]);rw[g]at r n e m;obtain⟨u,l⟩:=ex (F.alloc (.cells (ucells (List.replicate d.length 0)) 5))
 have C:Blk u (a+1) 5 (ucells (List.replicate d.length 0)):=by rw[<-l,<-e];exact Blk.new _ _ _
 have s:Below (a+1) F u:=by rw[<-l,<-e];exact(Below.refl _ _).alloc (Nat.le_refl _) _
 have p:Hid (Blk u a 125 #[.bool neg,.slice A d.length c,.int .i64 E]/\Blk u (a+1) 5 (ucells (List.replicate d.length 0))/\Below a w u):=hid ⟨r.below s (by omega),C,n.trans (s.mono (by omega))⟩;have K:=hid g;(try rw[e]);(try rw[l]);clear b g r n e l C s J;have Q:u.cell? ⟨a,1,none⟩=some (.slice A d.length c):=p.out.1.cell 1;go_wp2_with fail;clear Q;go_loopw [13] (fun s13 wr=>∃k:Nat,k<=d.length/\s13=.int .i64 k/\Hid (Blk wr (a+1) 5 (ucells ((d.take k).map Gr.ch++List.replicate (d.length-k) 0))/\Below a w wr)) (fun s13 _=>d.length-(intOf s13).toNat)
 case atStart=>exact⟨0,by omega,rfl,hid ⟨by simpa using p.out.2.1,p.out.2.2⟩⟩
 case round=>
  obtain⟨k,hk,rfl,o⟩:=hrel;by_cases hlt:k<d.length
  ·have y:(k:Int)<(d.length:Int):=by omega
   obtain⟨v,G⟩:=ex (d[k])
   have D:v<10:=by rw[<-G];exact O.out _ (List.getElem_mem hlt)
   obtain⟨ad,z,_,y0⟩:=zvc (m.out.below o.out.2) hlt G D;subst z;have pfd:∀j,wr.frozen? ⟨a+1,j,none⟩=false:=o.out.1.frozen;have f:((d.take k).map Gr.ch).length=k:=by simp;omega
   obtain⟨N,zd⟩:∃N,wr.cell? ⟨a+1,k,none⟩=some N:=by
    rw[o.out.1.cell];refine⟨_,Array.getElem?_eq_getElem (i:=k) ?_⟩;simp[ucells];omega
   have B:Hid ((d.take (k+1)).map Gr.ch=(d.take k).map Gr.ch++[Gr.ch v]/\((d.take k).map Gr.ch).length=k):=hid ⟨by
    rw[List.take_succ_eq_append_getElem hlt,List.map_append,G];rfl,f⟩
   have hvI:(v:Int)<10:=by omega
   clear G f;go_wp2_with fail;obtain⟨q,t⟩:∃q:UInt8,q=Gr.ch v:=⟨_,rfl⟩
   have x:48+(v:Int)=(q.toNat:Int):=by rw[t];unfold Gr.ch;rw[UInt8.toNat_ofNat'];omega
   rw[x];have P:Hid (Blk (wr.setCell ⟨a+1,k,none⟩ (.int .u8 (q.toNat:Int))) (a+1) 5 (ucells ((d.take (k+1)).map Gr.ch++List.replicate (d.length-(k+1)) 0))/\Below a w (wr.setCell ⟨a+1,k,none⟩ (.int .u8 (q.toNat:Int)))):=hid ⟨by
    have H:=o.out.1.set_ k (.int .u8 (q.toNat:Int));rw[zdr]at H;have L:=zkm ((d.take k).map Gr.ch) (d.length-k) q (by omega);rw[B.out.2]at L;rw[L]at H;rw[B.out.1,<-t,show d.length-(k+1)=d.length-k-1 from by omega];exact H,o.out.2.setCell (by simp) _⟩
   clear x t;go_roundw
   case rel=>exact⟨k+1,by omega,by go_num,P⟩
   case measure=>simp[intOf];omega
  ·have y:¬(k:Int)<(d.length:Int):=by omega
   have M:RowAt byteL wr (a+2) (some ⟨a+1,0,none⟩) (d.map Gr.ch):=by
    have:=o.out.1;rw[show k=d.length from by omega,List.take_length,Nat.sub_self,List.replicate_zero,List.append_nil]at this;exact RowAt.ofBlk this (zar _) (by omega)
   have I:=zdt wr _ (some ⟨a+1,0,none⟩) d.length M;rw[List.length_map]at I;clear M;go_wp2;go_ret;exact⟨rfl,by rw[K.out];exact o.out.2⟩
theorem zdf (neg:Bool):(signS neg).length<=1:=by cases neg<;>decide
theorem zsc (x:Gr.Dn) (A:Option Addr) (c:Nat) (hl:x.d.length<=1073741823) (hd:∀v∈x.d,v<10) (w:World) (h:RowAt byteL w w.heap.size A (d8 x.d)):
 Calls prog 144 #[.agg #[.bool x.neg,.slice A x.d.length c,.int .i64 x.e]] w fun e' w'=>e'=.returned (.string ⟨(coef x).toArray⟩)/\Below w.heap.size w w':=by
 obtain⟨neg,d,E⟩:=x;simp only at hl hd h ⊢;have i:=hid h;have z:=hid hd;clear h hd;obtain⟨r,l⟩:=ex (coef ⟨neg,d,E⟩)
 have t:=hid l;rw[l];clear l;go_enter func144,ntmps144;go_upto_region 1 with fail;obtain⟨b,j⟩:=ex (w.alloc (.cells #[.bool neg,.slice A d.length c,.int .i64 E] 125))
 obtain⟨g,f⟩:=ex w.heap.size
 have a:Hid (Blk b g 125 #[.bool neg,.slice A d.length c,.int .i64 E]/\Below g w b/\b.heap.size=g+1):=hid (by rw[<-j,<-f];exact⟨Blk.new _ _ _,(Below.refl _ _).alloc (Nat.le_refl _) _,by simp⟩);have k:=hid f;rw[f]at i;(try rw[j]);(try rw[f]);clear j f;have B:b.cell? ⟨g,1,none⟩=some (.slice A d.length c):=a.out.1.cell 1;by_cases h0:d=[]
 ·subst h0;have n:Hid (r=[48]):=hid (by rw[<-t.out];rfl);go_wp2;go_ret;rw[n.out,k.out];exact⟨rfl,a.out.2.1⟩
 ·have hlp:=List.length_pos_iff.2 h0;have h1:¬((d.length:Int)=0):=by omega
  have h1b:((d.length:Int)==0)=false:=by simpa using h0
  have n:Hid (r=signS neg++d.map Gr.ch):=hid (by rw[<-t.out];unfold coef;rw[if_neg h0];rfl);go_upto_region 3 with fail;clear B;have s:b.heap.size=g+1:=a.out.2.2;have u:Hid (∀W:WB b.heap.size b,Calls prog 172 #[.agg #[.bool neg,.slice A d.length c,.int .i64 E]] W.w (fun e q=>e=.returned (.string ⟨(signS neg).toArray⟩)/\Below b.heap.size b q)/\Calls prog 173 #[.agg #[.bool neg,.slice A d.length c,.int .i64 E]] W.w (fun e q=>e=.returned (.string ⟨(d.map Gr.ch).toArray⟩)/\Below b.heap.size b q)):=hid (fun W=>⟨(zsb neg A d.length c E W.w).mono (fun _ _ ⟨m,o⟩=>⟨m,W.h.trans (o.mono W.h.size)⟩),(zlw neg A d c E hl z.out W.w (((i.out.below a.out.2.1).below (W.h.mono (by omega))).more (by have:=W.h.size;omega))).mono (fun _ _ ⟨m,o⟩=>⟨m,W.h.trans (o.mono W.h.size)⟩)⟩);have p0:∀W:WB b.heap.size b,W.w.cell? ⟨g,0,none⟩=some (.bool neg):=fun W=>(W.h.cell (p:=⟨g,0,none⟩) (by simp;omega)).trans (a.out.1.cell 0)
  have p1:∀W:WB b.heap.size b,W.w.cell? ⟨g,1,none⟩=some (.slice A d.length c):=fun W=>(W.h.cell (p:=⟨g,1,none⟩) (by simp;omega)).trans (a.out.1.cell 1)
  have p2:∀W:WB b.heap.size b,W.w.cell? ⟨g,2,none⟩=some (.int .i64 E):=fun W=>(W.h.cell (p:=⟨g,2,none⟩) (by simp;omega)).trans (a.out.1.cell 2)
  clear s;have hadd:=fun W=>zac (signS neg) (d.map Gr.ch) (by have:=zdf neg;rw[List.length_map];omega) W
  refine zaa b.heap.size b (by kernel_rfl) (by kernel_rfl) (Below.refl _ _) ?_
  repeat (go_big_quiet_step ((first| (with_reducible refine Calls.grow (u.out _).1)| (with_reducible refine Calls.grow (u.out _).2))))
  refine wpQuiet_nil ?_;rintro _ ⟨y,rfl⟩;go_wp2;go_ret;rw[n.out,k.out];exact⟨rfl,a.out.2.1.trans (y.h.mono (by have:=a.out.2.2;omega))⟩
theorem zgp (n:Int) (h0:-9223372036854775808<=n) (h1:n<=9223372036854775807) (w:World) (hT:UT w):
 Calls prog 145 #[.int .i64 n] w fun e w'=>e=.returned (.string ⟨(Lib.itoa n).toArray⟩)/\Below w.heap.size w w':=
 (strconv_Itoa n h0 h1 w hT.pow).mono (fun _ _ ⟨e,k,os,h⟩=>⟨e,by rw[h];exact Lib.below_grow _ _ (Nat.le_refl _) _ _⟩)
theorem zgq (n:Int) (h0:-9223372036854775808<=n) (h1:n<=9223372036854775807):(Lib.itoa n).length<=21:=by
 have:=zcx n 19 (by omega);omega
theorem zor (x:Gr.Dn) (A:Option Addr) (c:Nat) (hl:x.d.length<=1073741823) (hd:∀v∈x.d,v<10) (h0:-9223372036854775808<=x.e) (h1:x.e<=9223372036854775807) (w:World) (hT:UT w) (h:RowAt byteL w w.heap.size A (d8 x.d)):
 Calls prog 113 #[.agg #[.bool x.neg,.slice A x.d.length c,.int .i64 x.e]] w fun e' w'=>e'=.returned (.string ⟨(Gr.text x).toArray⟩)/\Below w.heap.size w w':=by
 have k:=hid (fun(W:World) (hW:RowAt byteL W W.heap.size A (d8 x.d))=>zsc x A c hl hd W hW);have q:(coef x).length<=1073741825:=by
  unfold coef;split
  ·simp
  ·have:=zdf x.neg;unfold signS at this;rw[List.length_append,List.length_map];omega
 have n:=zgq x.e h0 h1;obtain⟨r,u⟩:=ex (coef x)
 obtain⟨J,l⟩:=ex (Gr.text x)
 have o:Hid (J=r++101::Lib.itoa x.e):=hid (by rw[<-l,<-u];rfl);rw[u]at k q;rw[l];clear u l;obtain⟨neg,d,E⟩:=x;simp only at hl h0 h1 h k n o ⊢;obtain⟨t,H⟩:=ex (Lib.itoa E)
 have m:=hid (fun(W:World) (hW:UT W)=>zgp E h0 h1 W hW);rw[H]at n o m;clear H;have j:=hid h;have B:=hid hT;clear h hd hT;go_enter func113,ntmps113;go_upto_region 1 with fail;obtain⟨a,i⟩:=ex (w.alloc (.cells #[.bool neg,.slice A d.length c,.int .i64 E] 125))
 obtain⟨g,f⟩:=ex w.heap.size
 have b:Hid (Blk a g 125 #[.bool neg,.slice A d.length c,.int .i64 E]/\Below g w a/\a.heap.size=g+1):=hid (by rw[<-i,<-f];exact⟨Blk.new _ _ _,(Below.refl _ _).alloc (Nat.le_refl _) _,by simp⟩);have z:Hid (UT a):=hid (UT.stays _ _ B.out (by rw[<-i];exact(Below.refl _ _).alloc (Nat.le_refl _) _));have C:=hid f;rw[f]at j;(try rw[i]);(try rw[f]);clear i f;have F:a.heap.size=g+1:=b.out.2.2;have G:Hid (∀W:WB a.heap.size a,Calls prog 144 #[.agg #[.bool neg,.slice A d.length c,.int .i64 E]] W.w (fun e s=>e=.returned (.string ⟨r.toArray⟩)/\Below a.heap.size a s)/\Calls prog 145 #[.int .i64 E] W.w (fun e s=>e=.returned (.string ⟨t.toArray⟩)/\Below a.heap.size a s)):=hid (fun W=>⟨(k.out W.w (((j.out.below b.out.2.1).below (W.h.mono (by omega))).more (by have:=W.h.size;omega))).mono (fun _ _ ⟨y,D⟩=>⟨y,W.h.trans (D.mono W.h.size)⟩),(m.out W.w (UT.stays _ _ z.out W.h)).mono (fun _ _ ⟨y,D⟩=>⟨y,W.h.trans (D.mono W.h.size)⟩)⟩);have p0:∀W:WB a.heap.size a,W.w.cell? ⟨g,0,none⟩=some (.bool neg):=fun W=>(W.h.cell (p:=⟨g,0,none⟩) (by simp;omega)).trans (b.out.1.cell 0)
 have p1:∀W:WB a.heap.size a,W.w.cell? ⟨g,1,none⟩=some (.slice A d.length c):=fun W=>(W.h.cell (p:=⟨g,1,none⟩) (by simp;omega)).trans (b.out.1.cell 1)
 have p2:∀W:WB a.heap.size a,W.w.cell? ⟨g,2,none⟩=some (.int .i64 E):=fun W=>(W.h.cell (p:=⟨g,2,none⟩) (by simp;omega)).trans (b.out.1.cell 2)
 have hadd:=fun W=>zac r [101] (by simp;omega) W
 have hadd2:=fun W=>zac (r++[101]) t (by simp;omega) W
 clear F;refine zaa a.heap.size a (by kernel_rfl) (by kernel_rfl) (Below.refl _ _) ?_
 repeat (go_big_quiet_step ((first| (with_reducible refine Calls.grow (G.out _).1)| (with_reducible refine Calls.grow (G.out _).2))))
 refine wpQuiet_nil ?_;rintro _ ⟨I,rfl⟩;go_wp2;go_ret;rw[o.out,C.out];exact⟨rfl,b.out.2.1.trans (I.h.mono (by have:=b.out.2.2;omega))⟩
theorem zce (f:Nat) (w:World):(callFunc 157 #[.float .f64 f]).run prog w=.ok (.value (.int .u64 f)) w:=by
 rw[run_callFunc_extern func157 (by kernel_rfl) (by kernel_rfl) (by kernel_rfl) (e:=Extern.MathFloatBits.float64bits) (by kernel_rfl)];rfl
theorem zay (n:Int) (w:World):(callFunc 147 #[.int .u64 n]).run prog w=.ok (.value (.float .f64 n.toNat)) w:=by
 rw[run_callFunc_extern func147 (by kernel_rfl) (by kernel_rfl) (by kernel_rfl) (e:=Extern.MathFloatBits.float64frombits) (by kernel_rfl)];rfl
theorem zgi (f:Nat) (hf:f<9223372036854775808) (w:World):Calls prog 180 #[.float .f64 f] w fun e w'=>e=.returned (.float .f64 f)/\w=w':=by
 have c1:=fun W=>zce f W
 have c2:=fun W=>zay (f:Int) W
 have c3:=zja f hf;go_enter func180,ntmps180;go_wp2;go_ret;exact⟨rfl,rfl⟩
theorem zoh (f:Nat) (hf:f<9223372036854775808) (w:World):Calls prog 153 #[.float .f64 f] w fun e w'=>e=.returned (.bool false)/\w=w':=by
 have c1:=fun W=>zce f W
 have h0:(0:Int)<=(f:Int):=by omega
 have h1:(f:Int)<=9223372036854775807:=by omega
 have h2:IntKind.i64.wrap (f:Int)=(f:Int):=IntWalk.i64_in _ (by omega);have h3:decide ((f:Int)<0)=false:=by simp
 go_enter func153,ntmps153;go_wp2;go_ret;exact⟨rfl,rfl⟩
theorem zkl (f:Nat) (hf:f<9223372036854775808) (ho:(FloatKind.f64.format.order f 9218868437227405311==some Ordering.gt)=false) (w:World):Calls prog 154 #[.float .f64 f,.int .i64 0] w fun e w'=>e=.returned (.bool false)/\w=w':=by
 have a:=hid (fun W=>zgi f hf W);go_enter func154,ntmps154;go_wp2_with fail;refine(a.out _).mono ?_;rintro e w1 ⟨rfl,rfl⟩;go_wp2;go_ret;exact⟨rfl,rfl⟩
theorem zr5 (f:Nat) (ho:(FloatKind.f64.format.order f f != some Ordering.eq)=false) (w:World):Calls prog 178 #[.float .f64 f] w fun e w'=>e=.returned (.bool false)/\w=w':=by
 go_enter func178,ntmps178;go_wp2;go_ret;exact⟨rfl,rfl⟩
theorem zoi (f:Nat) (hf:f<9223372036854775808) (ho:(FloatKind.f64.format.order f 4503599627370496==some Ordering.lt)=false) (w:World):Calls prog 179 #[.float .f64 f] w fun e w'=>e=.returned (.tuple #[.float .f64 f,.int .i64 0])/\w=w':=by
 have a:=hid (fun W=>zgi f hf W);go_enter func179,ntmps179;go_wp2_with fail;refine(a.out _).mono ?_;rintro e w1 ⟨rfl,rfl⟩;go_wp2;go_ret2;exact⟨rfl,rfl⟩
namespace Flt
section
variable {m L:Nat} {e:Int}
theorem Fits.o_max (h:Fits m L e):(FloatKind.f64.format.order (fw m L e) 9218868437227405311==some Ordering.gt)=false:=by
 show(Ieee.double.order (fw m L e) 9218868437227405311==some Ordering.gt)=false;rcases h.order_max with h1|h1<;>rw[h1]<;>rfl
theorem Fits.o_self (h:Fits m L e):(FloatKind.f64.format.order (fw m L e) (fw m L e) != some Ordering.eq)=false:=by
 show(Ieee.double.order (fw m L e) (fw m L e) != some Ordering.eq)=false;rw[h.order_self];rfl
theorem Fits.o_zero (h:Fits m L e):(FloatKind.f64.format.order (fw m L e) 0==some Ordering.eq)=false:=by
 show(Ieee.double.order (fw m L e) 0==some Ordering.eq)=false;rw[h.order_zero];rfl
theorem Fits.at0 (h:Fits m L e):Fits m L 0:=⟨h.odd,h.lo,h.hi,h.len,by omega,by have:=h.len;omega⟩
theorem Fits.o_norm (h:Fits m L 0):(FloatKind.f64.format.order (fw m L 0) 4503599627370496==some Ordering.lt)=false:=by
 show(Ieee.double.order (fw m L 0) 4503599627370496==some Ordering.lt)=false;obtain⟨a,b,c,d,f⟩:=h.sig_bd;have hlen:=h.len;have hlp:lastP L 0=(L:Int)-52:=by unfold lastP;omega
 have c2:4503599627370496<=sig m L 0:=by rcases c with c|c<;>omega
 unfold Ieee.Format.order;have g:Ieee.double.read 4503599627370496=.number false 4503599627370496 (-1074):=by decide
 rw[h.read,g];simp only[Ieee.Datum.order,Ieee.signed,Bool.false_eq_true,if_false];rw[show min (lastP L 0) (-1074)=-1074 from by omega,show((-1074:Int)- -1074).toNat=0 from rfl,Nat.shiftLeft_zero,Nat.shiftLeft_eq];have:sig m L 0<=sig m L 0*2 ^ (lastP L 0- -1074).toNat:=Nat.le_mul_of_pos_right _ (Nat.two_pow_pos _);generalize sig m L 0*2 ^ (lastP L 0- -1074).toNat=N at this;simp only[compare,compareOfLessAndEq];rw[if_neg (by omega)];split<;>rfl
theorem Fits.fw0 (h:Fits m L 0):fw m L 0=(L+1022)*4503599627370496+m*2 ^ (52-L):=by
 have hlen:=h.len;have a:lastP L 0=(L:Int)-52:=by unfold lastP;omega
 unfold fw sig;rw[a,show((L:Int)-52+1074).toNat=L+1022 from by omega,show(0-((L:Int)-52)).toNat=52-L from by omega]
theorem Fits.parts0 (h:Fits m L 0):fw m L 0 /4503599627370496=L+1023/\fw m L 0%4503599627370496=m*2 ^ (52-L)-4503599627370496:=by
 obtain⟨f1,f2⟩:=h.full;rw[h.fw0];omega
end
end Flt
open Flt in
theorem zoj (m L:Nat) (e:Int) (h:Flt.Fits m L e) (f:Nat) (hf:fw m L 0=f) (w:World):Calls prog 152 #[.float .f64 f,.int .i64 e] w fun r w'=>r=.returned (.float .f64 (fw m L e))/\w=w':=by
 have a:=h.at0;have j:=a.fw_lt.2;have u:=a.o_zero;have s:=hid (fun W=>zkl f (by omega) (by rw[<-hf];exact a.o_max) W);have q:=hid (fun W=>zr5 f (by rw[<-hf];exact a.o_self) W);have n:=hid (fun W=>zoi f (by omega) (by rw[<-hf];exact a.o_norm) W);obtain⟨k,i⟩:=a.parts0;rw[hf]at u k i j;have c1:=fun W=>zce f W
 have hlen:=h.len;have he0:=h.e0;have he1:=h.e1;have o:=hid h;have i1:(f:Int) /4503599627370496=(L:Int)+1023:=by omega
 have i2:IntKind.i64.wrap ((L:Int)+1023)=(L:Int)+1023:=IntWalk.i64_in _ (by omega);have i3:bits .and .i64 ((L:Int)+1023) 2047=(L:Int)+1023:=by have:=zu8 (L+1023) (by omega);simpa using this
 have p:bits .andNot .u64 (f:Int) 9218868437227405312=((m*2 ^ (52-L)-4503599627370496:Nat):Int):=by rw[zlt f (by omega),i]
 have g:m*2 ^ (52-L)-4503599627370496<4503599627370496:=by omega
 by_cases hn:-1022<=e+L
 ·obtain⟨X,c⟩:=ex ((e+L+1023).toNat*4503599627370496+(m*2 ^ (52-L)-4503599627370496))
  have b:=o.out.mul_one hn;have l:bits .or .u64 ((m*2 ^ (52-L)-4503599627370496:Nat):Int) ((e+(L:Int)+1023)*4503599627370496)=(X:Int):=by
   have:=zog (m*2 ^ (52-L)-4503599627370496) (e+L+1023).toNat g (by omega);rw[c]at this;rw[show(e+(L:Int)+1023)*4503599627370496=(((e+L+1023).toNat*4503599627370496:Nat):Int)from by omega];exact this
  rw[c]at b;have v:=fun W=>zay (X:Int) W
  have t:=fun W=>run_float_arith (P:=prog) (w:=W) .mul 128 .f64 4607182418800017408 X (fw m L e) b
  obtain⟨Q,d⟩:=ex (m*2 ^ (52-L)-4503599627370496)
  rw[d]at p l;clear h a hf k i g c b d;go_enter func152,ntmps152;go_wp2_with (first| ((with_reducible refine(s.out _).mono ?_);rintro _ _ ⟨rfl,rfl⟩)| ((with_reducible refine(q.out _).mono ?_);rintro _ _ ⟨rfl,rfl⟩)| ((with_reducible refine(n.out _).mono ?_);rintro _ _ ⟨rfl,rfl⟩));go_ret;exact⟨rfl,rfl⟩
 ·obtain⟨X,c⟩:=ex ((e+L+1076).toNat*4503599627370496+(m*2 ^ (52-L)-4503599627370496))
  have b:=o.out.mul_small (by omega);have l:bits .or .u64 ((m*2 ^ (52-L)-4503599627370496:Nat):Int) ((e+(L:Int)+53+1023)*4503599627370496)=(X:Int):=by
   have:=zog (m*2 ^ (52-L)-4503599627370496) (e+L+1076).toNat g (by omega);rw[c]at this;rw[show(e+(L:Int)+53+1023)*4503599627370496=(((e+L+1076).toNat*4503599627370496:Nat):Int)from by omega];exact this
  rw[c]at b;have v:=fun W=>zay (X:Int) W
  have t:=fun W=>run_float_arith (P:=prog) (w:=W) .mul 128 .f64 4368491638549381120 X (fw m L e) b
  obtain⟨Q,d⟩:=ex (m*2 ^ (52-L)-4503599627370496)
  rw[d]at p l;clear h a hf k i g c b d;go_enter func152,ntmps152;go_wp2_with (first| ((with_reducible refine(s.out _).mono ?_);rintro _ _ ⟨rfl,rfl⟩)| ((with_reducible refine(q.out _).mono ?_);rintro _ _ ⟨rfl,rfl⟩)| ((with_reducible refine(n.out _).mono ?_);rintro _ _ ⟨rfl,rfl⟩));go_ret;exact⟨rfl,rfl⟩
end Go.Proofs.YtoigpackhninoaaGreatDoor

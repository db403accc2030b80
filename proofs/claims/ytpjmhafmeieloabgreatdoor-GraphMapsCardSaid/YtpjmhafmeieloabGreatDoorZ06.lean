import Derived.Test.YtpjmhafmeieloabGreatDoorZ04
import Derived.Test.YtpjmhafmeieloabGreatDoorZ19
import Derived.Lib.AppendIntMem
namespace Go.Proofs.YtpjmhafmeieloabGreatDoor
open _root_.Go.Proofs.Tryz
open Go.RowKit
def jcells (m:List Int):Array Value:=(m.map (fun(x:Int)=>Value.int .i64 x)).toArray
theorem zf7 (m:List Int) (i:Nat) (x:Int):(jcells m).setIfInBounds i (.int .i64 x)=jcells (m.set i x):=by
 simp[jcells,List.map_set]
theorem zb4 {m:List Int} {i:Nat} (h:i<m.length):(jcells m)[i]? =some (.int .i64 (m.getD i (-1))):=by
 simp[jcells,List.getD_eq_getElem?_getD,h]
structure TL where
 bN:Nat
 bI:Nat
 bL:Nat
 bS:Nat
 bO:Nat
 bV:Nat
 bG:Nat
 bZ:Nat
 bC:Nat
 rI:Nat
 rL:Nat
 rC:Nat
 rO:Nat
def TL.args (y:TL) (v:Value):Array Value:=#[v,.pointer (some ⟨y.bN,0,none⟩),.pointer (some ⟨y.bI,0,none⟩),.pointer (some ⟨y.bL,0,none⟩),.pointer (some ⟨y.bS,0,none⟩),.pointer (some ⟨y.bO,0,none⟩),.pointer (some ⟨y.bV,0,none⟩),.pointer (some ⟨y.bG,0,none⟩),.pointer (some ⟨y.bZ,0,none⟩),.pointer (some ⟨y.bC,0,none⟩)]
def TL.fn (y:TL):Value:=.func (.func 60) #[] #[.pointer (some ⟨y.bN,0,none⟩),.pointer (some ⟨y.bI,0,none⟩),.pointer (some ⟨y.bL,0,none⟩),.pointer (some ⟨y.bS,0,none⟩),.pointer (some ⟨y.bO,0,none⟩),.pointer (some ⟨y.bV,0,none⟩),.pointer (some ⟨y.bG,0,none⟩),.pointer (some ⟨y.bZ,0,none⟩),.pointer (some ⟨y.bC,0,none⟩)]
structure TLok (y:TL) (B D:Nat):Prop where
 nI:y.bN≠y.rI
 nL:y.bN≠y.rL
 nC:y.bN≠y.rC
 iL:y.rI≠y.rL
 iC:y.rI≠y.rC
 lC:y.rL≠y.rC
 sI:y.bS≠y.bI
 sL:y.bS≠y.bL
 sC:y.bS≠y.bC
 sZ:y.bS≠y.bZ
 zI:y.bZ≠y.bI
 zL:y.bZ≠y.bL
 zC:y.bZ≠y.bC
 dN:y.bN<D
 dI:y.rI<D
 dL:y.rL<D
 dC:y.rC<D
 dO:y.rO<D
 dS:y.bS<D
 dZ:y.bZ<D
 lo:B<=y.bN/\B<=y.rI/\B<=y.rL/\B<=y.rC/\B<=y.rO/\B<=y.bS/\B<=y.bZ/\B<=D
structure TAt (y:TL) (B D:Nat) (A:Option Addr) (c:Nat) (root:Int) (vs:List NV) (ns:List Gr.Nd) (w:World) (s:Gr.TS) (sv zv:Value):Prop where
 ok:TLok y B D
 hd:D<=w.heap.size
 xI:Blk w y.bI 38 #[.slice (some ⟨y.rI,0,none⟩) ns.length ns.length]
 xL:Blk w y.bL 38 #[.slice (some ⟨y.rL,0,none⟩) ns.length ns.length]
 xC:Blk w y.bC 38 #[.slice (some ⟨y.rC,0,none⟩) ns.length ns.length]
 xO:Blk w y.bO 54 #[.slice (some ⟨y.rO,0,none⟩) ns.length ns.length]
 xV:Blk w y.bV 70 #[y.fn]
 xG:Blk w y.bG 27 #[.slice A ns.length c,.int .i64 root]
 at_:GAt w B A vs ns
 bN:Blk w y.bN 3 #[.int .i64 (s.next:Int)]
 bS:Blk w y.bS 38 #[sv]
 bZ:Blk w y.bZ 38 #[zv]
 rI:Blk w y.rI 3 (icells s.idx)
 rL:Blk w y.rL 3 (icells s.low)
 rC:Blk w y.rC 3 (jcells s.inn)
 rO:Blk w y.rO 4 (bcells s.on)
 stk:OwnRow intL w D 3 sv s.stk
 siz:OwnRow intL w D 3 zv s.sizes
 apart:∀k,sv.ownBlock=some k->zv.ownBlock≠some k
section
variable {y:TL} {B D:Nat} {A:Option Addr} {c:Nat} {root:Int} {vs:List NV} {ns:List Gr.Nd} {w w':World} {s:Gr.TS} {sv zv:Value}
theorem TAt.svD (h:TAt y B D A c root vs ns w s sv zv) {k:Nat} (hk:k<D):sv.ownBlock≠some k:=fun e=>by have:=(h.stk.lt k e).1;omega
theorem TAt.zvD (h:TAt y B D A c root vs ns w s sv zv) {k:Nat} (hk:k<D):zv.ownBlock≠some k:=fun e=>by have:=(h.siz.lt k e).1;omega
theorem TAt.later (h:TAt y B D A c root vs ns w s sv zv) (hb:Below w.heap.size w w'):TAt y B D A c root vs ns w' s sv zv:=
 ⟨h.ok,Nat.le_trans h.hd hb.size,h.xI.below hb h.xI.lt,h.xL.below hb h.xL.lt,h.xC.below hb h.xC.lt,h.xO.below hb h.xO.lt,h.xV.below hb h.xV.lt,h.xG.below hb h.xG.lt,h.at_.below (hb.mono (Nat.le_trans h.ok.lo.2.2.2.2.2.2.2 h.hd)),
  h.bN.below hb h.bN.lt,h.bS.below hb h.bS.lt,h.bZ.below hb h.bZ.lt,h.rI.below hb h.rI.lt,h.rL.below hb h.rL.lt,h.rC.below hb h.rC.lt,h.rO.below hb h.rO.lt,h.stk.later hb,h.siz.later hb,h.apart⟩
theorem TAt.alloc (h:TAt y B D A c root vs ns w s sv zv) (o:Obj):TAt y B D A c root vs ns (w.alloc o) s sv zv:=h.later ((Below.refl _ _).alloc (Nat.le_refl _) o)
theorem TAt.drewN (h:TAt y B D A c root vs ns w s sv zv) (n:Nat):TAt y B D A c root vs ns (w.drewN n) s sv zv:=h.later (below_drewN (Below.refl _ _) n)
theorem TAt.drew (h:TAt y B D A c root vs ns w s sv zv):TAt y B D A c root vs ns w.drew s sv zv:=h.drewN 1
theorem TAt.setN (h:TAt y B D A c root vs ns w s sv zv) (x:Nat):TAt y B D A c root vs ns (w.setCell ⟨y.bN,0,none⟩ (.int .i64 (x:Int))) {s with next:=x} sv zv:=
 ⟨h.ok,by simp[World.setCell];exact h.hd,(h.xI.far (p:=⟨y.bN,0,none⟩) (h.xI.ne_ h.bN (by decide)) _),(h.xL.far (p:=⟨y.bN,0,none⟩) (h.xL.ne_ h.bN (by decide)) _),(h.xC.far (p:=⟨y.bN,0,none⟩) (h.xC.ne_ h.bN (by decide)) _),(h.xO.far (p:=⟨y.bN,0,none⟩) (h.xO.ne_ h.bN (by decide)) _),(h.xV.far (p:=⟨y.bN,0,none⟩) (h.xV.ne_ h.bN (by decide)) _),(h.xG.far (p:=⟨y.bN,0,none⟩) (h.xG.ne_ h.bN (by decide)) _),(h.at_.below ((Below.refl _ w).setCell (p:=⟨y.bN,0,none⟩) h.ok.lo.1 _)),(h.bN.set_ 0 _),(h.bS.far (p:=⟨y.bN,0,none⟩) (h.bS.ne_ h.bN (by decide)) _),(h.bZ.far (p:=⟨y.bN,0,none⟩) (h.bZ.ne_ h.bN (by decide)) _),(h.rI.far (p:=⟨y.bN,0,none⟩) h.ok.nI.symm _),(h.rL.far (p:=⟨y.bN,0,none⟩) h.ok.nL.symm _),(h.rC.far (p:=⟨y.bN,0,none⟩) h.ok.nC.symm _),(h.rO.far (p:=⟨y.bN,0,none⟩) (h.rO.ne_ h.bN (by decide)) _),(h.stk.setCell (p:=⟨y.bN,0,none⟩) (h.svD h.ok.dN) _),(h.siz.setCell (p:=⟨y.bN,0,none⟩) (h.zvD h.ok.dN) _),h.apart⟩
theorem TAt.setI (h:TAt y B D A c root vs ns w s sv zv) (v x:Nat):TAt y B D A c root vs ns (w.setCell ⟨y.rI,v,none⟩ (.int .i64 (x:Int))) {s with idx:=s.idx.set v x} sv zv:=
 ⟨h.ok,by simp[World.setCell];exact h.hd,(h.xI.far (p:=⟨y.rI,v,none⟩) (h.xI.ne_ h.rI (by decide)) _),(h.xL.far (p:=⟨y.rI,v,none⟩) (h.xL.ne_ h.rI (by decide)) _),(h.xC.far (p:=⟨y.rI,v,none⟩) (h.xC.ne_ h.rI (by decide)) _),(h.xO.far (p:=⟨y.rI,v,none⟩) (h.xO.ne_ h.rI (by decide)) _),(h.xV.far (p:=⟨y.rI,v,none⟩) (h.xV.ne_ h.rI (by decide)) _),(h.xG.far (p:=⟨y.rI,v,none⟩) (h.xG.ne_ h.rI (by decide)) _),(h.at_.below ((Below.refl _ w).setCell (p:=⟨y.rI,v,none⟩) h.ok.lo.2.1 _)),(h.bN.far (p:=⟨y.rI,v,none⟩) h.ok.nI _),(h.bS.far (p:=⟨y.rI,v,none⟩) (h.bS.ne_ h.rI (by decide)) _),(h.bZ.far (p:=⟨y.rI,v,none⟩) (h.bZ.ne_ h.rI (by decide)) _),(by have:=h.rI.set_ v (.int .i64 (x:Int));rw[zav]at this;exact this),(h.rL.far (p:=⟨y.rI,v,none⟩) h.ok.iL.symm _),(h.rC.far (p:=⟨y.rI,v,none⟩) h.ok.iC.symm _),(h.rO.far (p:=⟨y.rI,v,none⟩) (h.rO.ne_ h.rI (by decide)) _),(h.stk.setCell (p:=⟨y.rI,v,none⟩) (h.svD h.ok.dI) _),(h.siz.setCell (p:=⟨y.rI,v,none⟩) (h.zvD h.ok.dI) _),h.apart⟩
theorem TAt.setL (h:TAt y B D A c root vs ns w s sv zv) (v x:Nat):TAt y B D A c root vs ns (w.setCell ⟨y.rL,v,none⟩ (.int .i64 (x:Int))) {s with low:=s.low.set v x} sv zv:=
 ⟨h.ok,by simp[World.setCell];exact h.hd,(h.xI.far (p:=⟨y.rL,v,none⟩) (h.xI.ne_ h.rL (by decide)) _),(h.xL.far (p:=⟨y.rL,v,none⟩) (h.xL.ne_ h.rL (by decide)) _),(h.xC.far (p:=⟨y.rL,v,none⟩) (h.xC.ne_ h.rL (by decide)) _),(h.xO.far (p:=⟨y.rL,v,none⟩) (h.xO.ne_ h.rL (by decide)) _),(h.xV.far (p:=⟨y.rL,v,none⟩) (h.xV.ne_ h.rL (by decide)) _),(h.xG.far (p:=⟨y.rL,v,none⟩) (h.xG.ne_ h.rL (by decide)) _),(h.at_.below ((Below.refl _ w).setCell (p:=⟨y.rL,v,none⟩) h.ok.lo.2.2.1 _)),(h.bN.far (p:=⟨y.rL,v,none⟩) h.ok.nL _),(h.bS.far (p:=⟨y.rL,v,none⟩) (h.bS.ne_ h.rL (by decide)) _),(h.bZ.far (p:=⟨y.rL,v,none⟩) (h.bZ.ne_ h.rL (by decide)) _),(h.rI.far (p:=⟨y.rL,v,none⟩) h.ok.iL _),(by have:=h.rL.set_ v (.int .i64 (x:Int));rw[zav]at this;exact this),(h.rC.far (p:=⟨y.rL,v,none⟩) h.ok.lC.symm _),(h.rO.far (p:=⟨y.rL,v,none⟩) (h.rO.ne_ h.rL (by decide)) _),(h.stk.setCell (p:=⟨y.rL,v,none⟩) (h.svD h.ok.dL) _),(h.siz.setCell (p:=⟨y.rL,v,none⟩) (h.zvD h.ok.dL) _),h.apart⟩
theorem TAt.setC (h:TAt y B D A c root vs ns w s sv zv) (v:Nat) (x:Int):TAt y B D A c root vs ns (w.setCell ⟨y.rC,v,none⟩ (.int .i64 x)) {s with inn:=s.inn.set v x} sv zv:=
 ⟨h.ok,by simp[World.setCell];exact h.hd,(h.xI.far (p:=⟨y.rC,v,none⟩) (h.xI.ne_ h.rC (by decide)) _),(h.xL.far (p:=⟨y.rC,v,none⟩) (h.xL.ne_ h.rC (by decide)) _),(h.xC.far (p:=⟨y.rC,v,none⟩) (h.xC.ne_ h.rC (by decide)) _),(h.xO.far (p:=⟨y.rC,v,none⟩) (h.xO.ne_ h.rC (by decide)) _),(h.xV.far (p:=⟨y.rC,v,none⟩) (h.xV.ne_ h.rC (by decide)) _),(h.xG.far (p:=⟨y.rC,v,none⟩) (h.xG.ne_ h.rC (by decide)) _),(h.at_.below ((Below.refl _ w).setCell (p:=⟨y.rC,v,none⟩) h.ok.lo.2.2.2.1 _)),(h.bN.far (p:=⟨y.rC,v,none⟩) h.ok.nC _),(h.bS.far (p:=⟨y.rC,v,none⟩) (h.bS.ne_ h.rC (by decide)) _),(h.bZ.far (p:=⟨y.rC,v,none⟩) (h.bZ.ne_ h.rC (by decide)) _),(h.rI.far (p:=⟨y.rC,v,none⟩) h.ok.iC _),(h.rL.far (p:=⟨y.rC,v,none⟩) h.ok.lC _),(by have:=h.rC.set_ v (.int .i64 x);rw[zf7]at this;exact this),(h.rO.far (p:=⟨y.rC,v,none⟩) (h.rO.ne_ h.rC (by decide)) _),(h.stk.setCell (p:=⟨y.rC,v,none⟩) (h.svD h.ok.dC) _),(h.siz.setCell (p:=⟨y.rC,v,none⟩) (h.zvD h.ok.dC) _),h.apart⟩
theorem TAt.setO (h:TAt y B D A c root vs ns w s sv zv) (v:Nat) (b:Bool):TAt y B D A c root vs ns (w.setCell ⟨y.rO,v,none⟩ (.bool b)) {s with on:=s.on.set v b} sv zv:=
 ⟨h.ok,by simp[World.setCell];exact h.hd,(h.xI.far (p:=⟨y.rO,v,none⟩) (h.xI.ne_ h.rO (by decide)) _),(h.xL.far (p:=⟨y.rO,v,none⟩) (h.xL.ne_ h.rO (by decide)) _),(h.xC.far (p:=⟨y.rO,v,none⟩) (h.xC.ne_ h.rO (by decide)) _),(h.xO.far (p:=⟨y.rO,v,none⟩) (h.xO.ne_ h.rO (by decide)) _),(h.xV.far (p:=⟨y.rO,v,none⟩) (h.xV.ne_ h.rO (by decide)) _),(h.xG.far (p:=⟨y.rO,v,none⟩) (h.xG.ne_ h.rO (by decide)) _),(h.at_.below ((Below.refl _ w).setCell (p:=⟨y.rO,v,none⟩) h.ok.lo.2.2.2.2.1 _)),(h.bN.far (p:=⟨y.rO,v,none⟩) (h.bN.ne_ h.rO (by decide)) _),(h.bS.far (p:=⟨y.rO,v,none⟩) (h.bS.ne_ h.rO (by decide)) _),(h.bZ.far (p:=⟨y.rO,v,none⟩) (h.bZ.ne_ h.rO (by decide)) _),(h.rI.far (p:=⟨y.rO,v,none⟩) (h.rI.ne_ h.rO (by decide)) _),(h.rL.far (p:=⟨y.rO,v,none⟩) (h.rL.ne_ h.rO (by decide)) _),(h.rC.far (p:=⟨y.rO,v,none⟩) (h.rC.ne_ h.rO (by decide)) _),(by have:=h.rO.set_ v (.bool b);rw[zb0]at this;exact this),(h.stk.setCell (p:=⟨y.rO,v,none⟩) (h.svD h.ok.dO) _),(h.siz.setCell (p:=⟨y.rO,v,none⟩) (h.zvD h.ok.dO) _),h.apart⟩
theorem TAt.setS (h:TAt y B D A c root vs ns w s sv zv) {sv2:Value} {l:List Nat} (ho:OwnRow intL w D 3 sv2 l) (hap:∀k,sv2.ownBlock=some k->zv.ownBlock≠some k):TAt y B D A c root vs ns (w.setCell ⟨y.bS,0,none⟩ sv2) {s with stk:=l} sv2 zv:=
 ⟨h.ok,by simp[World.setCell];exact h.hd,(h.xI.far (p:=⟨y.bS,0,none⟩) h.ok.sI.symm _),(h.xL.far (p:=⟨y.bS,0,none⟩) h.ok.sL.symm _),(h.xC.far (p:=⟨y.bS,0,none⟩) h.ok.sC.symm _),(h.xO.far (p:=⟨y.bS,0,none⟩) (h.xO.ne_ h.bS (by decide)) _),(h.xV.far (p:=⟨y.bS,0,none⟩) (h.xV.ne_ h.bS (by decide)) _),(h.xG.far (p:=⟨y.bS,0,none⟩) (h.xG.ne_ h.bS (by decide)) _),(h.at_.below ((Below.refl _ w).setCell (p:=⟨y.bS,0,none⟩) h.ok.lo.2.2.2.2.2.1 _)),(h.bN.far (p:=⟨y.bS,0,none⟩) (h.bN.ne_ h.bS (by decide)) _),(h.bS.set_ 0 _),(h.bZ.far (p:=⟨y.bS,0,none⟩) h.ok.sZ.symm _),(h.rI.far (p:=⟨y.bS,0,none⟩) (h.rI.ne_ h.bS (by decide)) _),(h.rL.far (p:=⟨y.bS,0,none⟩) (h.rL.ne_ h.bS (by decide)) _),(h.rC.far (p:=⟨y.bS,0,none⟩) (h.rC.ne_ h.bS (by decide)) _),(h.rO.far (p:=⟨y.bS,0,none⟩) (h.rO.ne_ h.bS (by decide)) _),(ho.setCell (p:=⟨y.bS,0,none⟩) (fun e=>absurd (show D<=y.bS from(ho.lt _ e).1) (by have:=h.ok.dS;omega)) _),(h.siz.setCell (p:=⟨y.bS,0,none⟩) (h.zvD h.ok.dS) _),hap⟩
theorem zsu (g n c m:Nat) (hm:m<=c) (w:World):(Instr.slice 38 (.slice (some ⟨g,0,none⟩) n c) none (some (.int .i64 (m:Int))) none).run prog w=.ok (.slice (some ⟨g,0,none⟩) m c) w:=by
 obtain⟨b,a,_,_,_⟩:=info_parts infoInt;rw[run_slice_h (P:=prog) 38 3 b underlying38 a (some ⟨g,0,none⟩) n c m hm w];split<;>simp[Addr.add]
theorem OwnRow.shape {α:Type} {L:Lay α} {w:World} {base:Nat} {E:TypeId} {v:Value} {l:List α} (h:OwnRow L w base E v l) (hl:l≠[]):∃g cap,v=.slice (some ⟨g,0,none⟩) l.length cap/\l.length<=cap:=by
 rcases h.2 with⟨_,hn⟩|⟨g,cap,cur,a,hbg,hh,b,hm,hcs,htk⟩
 .grind
 .exact⟨g,cap,a,b⟩
theorem OwnRow.drop1 {α:Type} {L:Lay α} {w:World} {base:Nat} {E:TypeId} {g cap n:Nat} {l:List α} {x:α} (h:OwnRow L w base E (.slice (some ⟨g,0,none⟩) n cap) (l++[x])):OwnRow L w base E (.slice (some ⟨g,0,none⟩) l.length cap) l:=by
 rcases h.2 with⟨d,_⟩|⟨g',cap',a,d,f,m,k,j,i,b⟩
 .cases d
 .injection d with e1 e2 e3
  injection e1 with e1
  injection e1 with e1
  subst e1;subst e3;rw[List.length_append,List.length_cons,List.length_nil]at k b;refine⟨L.all_len l,.inr ⟨g,cap,a,rfl,f,m,by omega,j,i,?_⟩⟩;have e:(a.toList.take ((l.length+(0+1))*L.sz)).take (l.length*L.sz)=(L.all (l++[x])).take (l.length*L.sz):=by rw[b]
  rw[List.take_take,L.all_append]at e;rw[show min (l.length*L.sz) ((l.length+(0+1))*L.sz)=l.length*L.sz from by rw[Nat.add_mul];omega]at e;rw[e,List.take_append_of_le_length (by rw[L.all_len];exact Nat.le_refl _),List.take_of_length_le (by rw[L.all_len];exact Nat.le_refl _)]
theorem OwnRow.off {α:Type} {L:Lay α} {w w2:World} {base:Nat} {E:TypeId} {v:Value} {l:List α} {row:Option Nat} (h:OwnRow L w base E v l) (hg:w.grownBy w2 row) (hne:∀k,v.ownBlock=some k->some k≠row):OwnRow L w2 base E v l:=by
 have b:=h.lt;refine⟨h.1,h.2.imp id ?_⟩;rintro⟨g,d,a,i,f,j,r⟩;have e:v.ownBlock=some g:=by rw[i];rfl
 exact⟨g,d,a,i,f,(hg.block g (b g e).2 (hne g e)).trans j,r⟩
theorem TAt.grownS (h:TAt y B D A c root vs ns w s sv zv) {w2:World} {sv2:Value} {l:List Nat} (ho:OwnRow intL w2 D 3 sv2 l) (hg:w.grownBy w2 sv.ownBlock) (hat:sv2.ownBlock=sv.ownBlock\/sv2.ownBlock=some w.heap.size):
 TAt y B D A c root vs ns (w2.setCell ⟨y.bS,0,none⟩ sv2) {s with stk:=l} sv2 zv:=by
 have f:∀{g:Nat} {t:TypeId} {cs:Array Value},Blk w g t cs->g<D->Blk w2 g t cs:=fun d m=>d.grown hg (fun e=>h.svD m e.symm)
 have a:∀{g:Nat} {t:TypeId} {cs:Array Value},Blk w g t cs->3≠t->Blk w2 g t cs:=fun d m=>d.grown hg (fun e=>zbz h.stk d m e.symm)
 have b:Below D w w2:=h.stk.grown_below hg h.hd;have q:OwnRow intL w2 D 3 zv s.sizes:=h.siz.off hg (fun k e i=>h.apart k i.symm e);have o:TAt y B D A c root vs ns w2 {s with stk:=s.stk} sv2 zv\/True:=.inr trivial;clear o;have j:∀k,sv2.ownBlock=some k->zv.ownBlock≠some k:=fun k e i=>by
  rcases hat with h1|h1
  .exact h.apart k (h1.symm.trans e) i
  .have:=(h.siz.lt k i).2;rw[h1]at e;injection e with e
   omega
 have n:=hg.size;exact⟨h.ok,by simp[World.setCell];exact Nat.le_trans h.hd n,((a h.xI (by decide)).far (p:=⟨y.bS,0,none⟩) h.ok.sI.symm _),((a h.xL (by decide)).far (p:=⟨y.bS,0,none⟩) h.ok.sL.symm _),((a h.xC (by decide)).far (p:=⟨y.bS,0,none⟩) h.ok.sC.symm _),((a h.xO (by decide)).far (p:=⟨y.bS,0,none⟩) (h.xO.ne_ h.bS (by decide)) _),((a h.xV (by decide)).far (p:=⟨y.bS,0,none⟩) (h.xV.ne_ h.bS (by decide)) _),((a h.xG (by decide)).far (p:=⟨y.bS,0,none⟩) (h.xG.ne_ h.bS (by decide)) _),(h.at_.below (b.mono h.ok.lo.2.2.2.2.2.2.2)).below ((Below.refl _ w2).setCell (p:=⟨y.bS,0,none⟩) h.ok.lo.2.2.2.2.2.1 _),((f h.bN h.ok.dN).far (p:=⟨y.bS,0,none⟩) (h.bN.ne_ h.bS (by decide)) _),((a h.bS (by decide)).set_ 0 _),((a h.bZ (by decide)).far (p:=⟨y.bS,0,none⟩) h.ok.sZ.symm _),((f h.rI h.ok.dI).far (p:=⟨y.bS,0,none⟩) (h.rI.ne_ h.bS (by decide)) _),((f h.rL h.ok.dL).far (p:=⟨y.bS,0,none⟩) (h.rL.ne_ h.bS (by decide)) _),((f h.rC h.ok.dC).far (p:=⟨y.bS,0,none⟩) (h.rC.ne_ h.bS (by decide)) _),((a h.rO (by decide)).far (p:=⟨y.bS,0,none⟩) (h.rO.ne_ h.bS (by decide)) _),
  (ho.setCell (p:=⟨y.bS,0,none⟩) (fun e=>absurd (show D<=y.bS from(ho.lt _ e).1) (by have:=h.ok.dS;omega)) _),(q.setCell (p:=⟨y.bS,0,none⟩) (h.zvD h.ok.dS) _),j⟩
theorem TAt.grownZ (h:TAt y B D A c root vs ns w s sv zv) {w2:World} {zv2:Value} {l:List Nat} (ho:OwnRow intL w2 D 3 zv2 l) (hg:w.grownBy w2 zv.ownBlock) (hat:zv2.ownBlock=zv.ownBlock\/zv2.ownBlock=some w.heap.size):
 TAt y B D A c root vs ns (w2.setCell ⟨y.bZ,0,none⟩ zv2) {s with sizes:=l} sv zv2:=by
 have i:∀{g:Nat} {t:TypeId} {cs:Array Value},Blk w g t cs->g<D->Blk w2 g t cs:=fun f m=>f.grown hg (fun e=>h.zvD m e.symm)
 have a:∀{g:Nat} {t:TypeId} {cs:Array Value},Blk w g t cs->3≠t->Blk w2 g t cs:=fun f m=>f.grown hg (fun e=>zbz h.siz f m e.symm)
 have d:Below D w w2:=h.siz.grown_below hg h.hd;have o:OwnRow intL w2 D 3 sv s.stk:=h.stk.off hg (fun k e b=>h.apart k e b.symm);have j:∀k,sv.ownBlock=some k->zv2.ownBlock≠some k:=fun k e b=>by
  rcases hat with h1|h1
  .exact h.apart k e (h1.symm.trans b)
  .have:=(h.stk.lt k e).2;rw[h1]at b;injection b with b
   omega
 have n:=hg.size;exact⟨h.ok,by simp[World.setCell];exact Nat.le_trans h.hd n,((a h.xI (by decide)).far (p:=⟨y.bZ,0,none⟩) h.ok.zI.symm _),((a h.xL (by decide)).far (p:=⟨y.bZ,0,none⟩) h.ok.zL.symm _),((a h.xC (by decide)).far (p:=⟨y.bZ,0,none⟩) h.ok.zC.symm _),((a h.xO (by decide)).far (p:=⟨y.bZ,0,none⟩) (h.xO.ne_ h.bZ (by decide)) _),((a h.xV (by decide)).far (p:=⟨y.bZ,0,none⟩) (h.xV.ne_ h.bZ (by decide)) _),((a h.xG (by decide)).far (p:=⟨y.bZ,0,none⟩) (h.xG.ne_ h.bZ (by decide)) _),(h.at_.below (d.mono h.ok.lo.2.2.2.2.2.2.2)).below ((Below.refl _ w2).setCell (p:=⟨y.bZ,0,none⟩) h.ok.lo.2.2.2.2.2.2.1 _),((i h.bN h.ok.dN).far (p:=⟨y.bZ,0,none⟩) (h.bN.ne_ h.bZ (by decide)) _),((a h.bS (by decide)).far (p:=⟨y.bZ,0,none⟩) h.ok.sZ _),((a h.bZ (by decide)).set_ 0 _),((i h.rI h.ok.dI).far (p:=⟨y.bZ,0,none⟩) (h.rI.ne_ h.bZ (by decide)) _),((i h.rL h.ok.dL).far (p:=⟨y.bZ,0,none⟩) (h.rL.ne_ h.bZ (by decide)) _),((i h.rC h.ok.dC).far (p:=⟨y.bZ,0,none⟩) (h.rC.ne_ h.bZ (by decide)) _),((a h.rO (by decide)).far (p:=⟨y.bZ,0,none⟩) (h.rO.ne_ h.bZ (by decide)) _),
  (o.setCell (p:=⟨y.bZ,0,none⟩) (h.svD h.ok.dZ) _),(ho.setCell (p:=⟨y.bZ,0,none⟩) (fun e=>absurd (show D<=y.bZ from(ho.lt _ e).1) (by have:=h.ok.dZ;omega)) _),j⟩
end
open Gr
open _root_.Go.Lib (hid)
set_option maxRecDepth 100000
set_option maxHeartbeats 16000000
theorem zdj (neg:Bool):(signS neg).length<=1:=by cases neg<;>decide
theorem zsj (x:Gr.Dn) (A:Option Addr) (c:Nat) (hl:x.d.length<=1073741823) (hd:∀v∈x.d,v<10) (w:World) (h:RowAt byteL w w.heap.size A (d8 x.d)):
 Calls prog 98 #[.agg #[.bool x.neg,.slice A x.d.length c,.int .i64 x.e]] w fun e' w'=>e'=.returned (.string ⟨(coef x).toArray⟩)/\Below w.heap.size w w':=by
 obtain⟨neg,d,E⟩:=x;simp only at hl hd h ⊢;have i:=hid h;have y:=hid hd;clear h hd;obtain⟨r,l⟩:=ex (coef ⟨neg,d,E⟩)
 have t:=hid l;rw[l];clear l;go_enter func98,ntmps98;go_upto_region 1 with fail;obtain⟨b,j⟩:=ex (w.alloc (.cells #[.bool neg,.slice A d.length c,.int .i64 E] 87))
 obtain⟨g,f⟩:=ex w.heap.size
 have a:Hid (Blk b g 87 #[.bool neg,.slice A d.length c,.int .i64 E]/\Below g w b/\b.heap.size=g+1):=hid (by rw[<-j,<-f];exact⟨Blk.new _ _ _,(Below.refl _ _).alloc (Nat.le_refl _) _,by simp⟩);have k:=hid f;rw[f]at i;(try rw[j]);(try rw[f]);clear j f;have B:b.cell? ⟨g,1,none⟩=some (.slice A d.length c):=a.out.1.cell 1;by_cases h0:d=[]
 .subst h0;have o:Hid (r=[48]):=hid (by rw[<-t.out];rfl);go_wp2;go_ret;rw[o.out,k.out];exact⟨rfl,a.out.2.1⟩
 .have hlp:=List.length_pos_iff.2 h0;have h1:¬((d.length:Int)=0):=by omega
  have h1b:((d.length:Int)==0)=false:=by simpa using h0
  have o:Hid (r=signS neg++d.map Gr.ch):=hid (by rw[<-t.out];unfold coef;rw[if_neg h0];rfl);go_upto_region 3 with fail;clear B;have n:b.heap.size=g+1:=a.out.2.2;have u:Hid (∀W:WB b.heap.size b,Calls prog 131 #[.agg #[.bool neg,.slice A d.length c,.int .i64 E]] W.w (fun e q=>e=.returned (.string ⟨(signS neg).toArray⟩)/\Below b.heap.size b q)/\Calls prog 132 #[.agg #[.bool neg,.slice A d.length c,.int .i64 E]] W.w (fun e q=>e=.returned (.string ⟨(d.map Gr.ch).toArray⟩)/\Below b.heap.size b q)):=hid (fun W=>⟨(zsi neg A d.length c E W.w).mono (fun _ _ ⟨s,m⟩=>⟨s,W.h.trans (m.mono W.h.size)⟩),(zl0 neg A d c E hl y.out W.w (((i.out.below a.out.2.1).below (W.h.mono (by omega))).more (by have:=W.h.size;omega))).mono (fun _ _ ⟨s,m⟩=>⟨s,W.h.trans (m.mono W.h.size)⟩)⟩);have p0:∀W:WB b.heap.size b,W.w.cell? ⟨g,0,none⟩=some (.bool neg):=fun W=>(W.h.cell (p:=⟨g,0,none⟩) (by simp;omega)).trans (a.out.1.cell 0)
  have p1:∀W:WB b.heap.size b,W.w.cell? ⟨g,1,none⟩=some (.slice A d.length c):=fun W=>(W.h.cell (p:=⟨g,1,none⟩) (by simp;omega)).trans (a.out.1.cell 1)
  have p2:∀W:WB b.heap.size b,W.w.cell? ⟨g,2,none⟩=some (.int .i64 E):=fun W=>(W.h.cell (p:=⟨g,2,none⟩) (by simp;omega)).trans (a.out.1.cell 2)
  clear n;have hadd:=fun W=>zac (signS neg) (d.map Gr.ch) (by have:=zdj neg;rw[List.length_map];omega) W
  refine zab b.heap.size b (by kernel_rfl) (by kernel_rfl) (Below.refl _ _) ?_
  repeat (go_big_quiet_step ((first| (with_reducible refine Calls.grow (u.out _).1)| (with_reducible refine Calls.grow (u.out _).2))))
  refine wpQuiet_nil ?_;rintro _ ⟨z,rfl⟩;go_wp2;go_ret;rw[o.out,k.out];exact⟨rfl,a.out.2.1.trans (z.h.mono (by have:=a.out.2.2;omega))⟩
theorem zgx (n:Int) (h0:-9223372036854775808<=n) (h1:n<=9223372036854775807) (w:World) (hT:UT w):
 Calls prog 99 #[.int .i64 n] w fun e w'=>e=.returned (.string ⟨(Lib.itoa n).toArray⟩)/\Below w.heap.size w w':=
 (strconv_Itoa n h0 h1 w hT.pow).mono (fun _ _ ⟨e,k,os,h⟩=>⟨e,by rw[h];exact Lib.below_grow _ _ (Nat.le_refl _) _ _⟩)
theorem zgy (n:Int) (h0:-9223372036854775808<=n) (h1:n<=9223372036854775807):(Lib.itoa n).length<=21:=by
 have:=zc1 n 19 (by omega);omega
theorem zow (x:Gr.Dn) (A:Option Addr) (c:Nat) (hl:x.d.length<=1073741823) (hd:∀v∈x.d,v<10) (h0:-9223372036854775808<=x.e) (h1:x.e<=9223372036854775807) (w:World) (hT:UT w) (h:RowAt byteL w w.heap.size A (d8 x.d)):
 Calls prog 72 #[.agg #[.bool x.neg,.slice A x.d.length c,.int .i64 x.e]] w fun e' w'=>e'=.returned (.string ⟨(Gr.text x).toArray⟩)/\Below w.heap.size w w':=by
 have l:=hid (fun(W:World) (hW:RowAt byteL W W.heap.size A (d8 x.d))=>zsj x A c hl hd W hW);have s:(coef x).length<=1073741825:=by
  unfold coef;split
  .simp
  .have:=zdj x.neg;unfold signS at this;rw[List.length_append,List.length_map];omega
 have n:=zgy x.e h0 h1;obtain⟨r,o⟩:=ex (coef x)
 obtain⟨J,k⟩:=ex (Gr.text x)
 have z:Hid (J=r++101::Lib.itoa x.e):=hid (by rw[<-k,<-o];rfl);rw[o]at l s;rw[k];clear o k;obtain⟨neg,d,E⟩:=x;simp only at hl h0 h1 h l n z ⊢;obtain⟨t,G⟩:=ex (Lib.itoa E)
 have m:=hid (fun(W:World) (hW:UT W)=>zgx E h0 h1 W hW);rw[G]at n z m;clear G;have j:=hid h;have u:=hid hT;clear h hd hT;go_enter func72,ntmps72;go_upto_region 1 with fail;obtain⟨a,i⟩:=ex (w.alloc (.cells #[.bool neg,.slice A d.length c,.int .i64 E] 87))
 obtain⟨g,f⟩:=ex w.heap.size
 have b:Hid (Blk a g 87 #[.bool neg,.slice A d.length c,.int .i64 E]/\Below g w a/\a.heap.size=g+1):=hid (by rw[<-i,<-f];exact⟨Blk.new _ _ _,(Below.refl _ _).alloc (Nat.le_refl _) _,by simp⟩);have q:Hid (UT a):=hid (UT.stays _ _ u.out (by rw[<-i];exact(Below.refl _ _).alloc (Nat.le_refl _) _));have y:=hid f;rw[f]at j;(try rw[i]);(try rw[f]);clear i f;have C:a.heap.size=g+1:=b.out.2.2;have H:Hid (∀W:WB a.heap.size a,Calls prog 98 #[.agg #[.bool neg,.slice A d.length c,.int .i64 E]] W.w (fun e D=>e=.returned (.string ⟨r.toArray⟩)/\Below a.heap.size a D)/\Calls prog 99 #[.int .i64 E] W.w (fun e D=>e=.returned (.string ⟨t.toArray⟩)/\Below a.heap.size a D)):=hid (fun W=>⟨(l.out W.w (((j.out.below b.out.2.1).below (W.h.mono (by omega))).more (by have:=W.h.size;omega))).mono (fun _ _ ⟨F,B⟩=>⟨F,W.h.trans (B.mono W.h.size)⟩),(m.out W.w (UT.stays _ _ q.out W.h)).mono (fun _ _ ⟨F,B⟩=>⟨F,W.h.trans (B.mono W.h.size)⟩)⟩);have p0:∀W:WB a.heap.size a,W.w.cell? ⟨g,0,none⟩=some (.bool neg):=fun W=>(W.h.cell (p:=⟨g,0,none⟩) (by simp;omega)).trans (b.out.1.cell 0)
 have p1:∀W:WB a.heap.size a,W.w.cell? ⟨g,1,none⟩=some (.slice A d.length c):=fun W=>(W.h.cell (p:=⟨g,1,none⟩) (by simp;omega)).trans (b.out.1.cell 1)
 have p2:∀W:WB a.heap.size a,W.w.cell? ⟨g,2,none⟩=some (.int .i64 E):=fun W=>(W.h.cell (p:=⟨g,2,none⟩) (by simp;omega)).trans (b.out.1.cell 2)
 have hadd:=fun W=>zac r [101] (by simp;omega) W
 have hadd2:=fun W=>zac (r++[101]) t (by simp;omega) W
 clear C;refine zab a.heap.size a (by kernel_rfl) (by kernel_rfl) (Below.refl _ _) ?_
 repeat (go_big_quiet_step ((first| (with_reducible refine Calls.grow (H.out _).1)| (with_reducible refine Calls.grow (H.out _).2))))
 refine wpQuiet_nil ?_;rintro _ ⟨I,rfl⟩;go_wp2;go_ret;rw[z.out,y.out];exact⟨rfl,b.out.2.1.trans (I.h.mono (by have:=b.out.2.2;omega))⟩
def rdg (s:Gr.Str) (k:Nat):Gr.Str:=(s.drop k).takeWhile Gr.dig
def zjy (s:Gr.Str) (k:Nat) (w:World) (e:Ending) (w':World):Prop:=∃A c,e=.returned (.tuple #[.slice A (rdg s k).length c,.int .i64 ((k+(rdg s k).length:Nat):Int)])/\OwnRow intL w' w.heap.size 3 (.slice A (rdg s k).length c) (vals (rdg s k))/\Below w.heap.size w w'
theorem zba (s:Gr.Str):(vals s).length=s.length:=by simp[vals]
theorem zqa (s:Gr.Str) (k m:Nat) (h:((s.drop k).take m).all Gr.dig=true) (hm:k+m<=s.length) (hn:∀h2:k+m<s.length,Gr.dig (s[k+m]'h2)=false):rdg s k=(s.drop k).take m:=by
 unfold rdg;have a:s.drop k=(s.drop k).take m++s.drop (k+m):=by
  rw[<-List.drop_drop];exact(List.take_append_drop m (s.drop k)).symm
 rw[a,List.takeWhile_append_of_pos (by simpa using h)];have h2:(s.drop (k+m)).takeWhile Gr.dig=[]:=by
  rcases Nat.lt_or_ge (k+m) s.length with h3|h3
  .rw[List.drop_eq_getElem_cons h3,List.takeWhile_cons,hn h3];rfl
  .rw[List.drop_eq_nil_of_le h3];rfl
 rw[h2,List.append_nil,List.take_append_of_le_length (by simp;omega),List.take_take,Nat.min_self]
theorem zjz {s:Gr.Str} {k m c:Nat} {A:Option Addr} {w w':World} (h:rdg s k=(s.drop k).take m) (_:0<=m) (hm:k+m<=s.length) (ho:OwnRow intL w' w.heap.size 3 (.slice A m c) (vals ((s.drop k).take m))) (hb:Below w.heap.size w w'):
 zjy s k w (.returned (.tuple #[.slice A m c,.int .i64 ((k+m:Nat):Int)])) w':=by
 have a:(rdg s k).length=m:=by rw[h];simp;omega
 unfold zjy;rw[a,h];exact⟨A,c,rfl,ho,hb⟩
theorem zc8 (s:Gr.Str) (hl:s.length<=1073741823) (k:Nat) (hk:k<=s.length) (w:World):
 Calls prog 148 #[.string ⟨s.toArray⟩,.int .i64 (k:Int)] w (zjy s k w):=by
 go_enter func148,ntmps148;go_wp2_with fail;go_loopw [1,6] (fun s1 s6 wr=>∃(m:Nat) (A:Option Addr) (c:Nat),k+m<=s.length/\s1=.int .i64 ((k+m:Nat):Int)/\s6=.slice A m c/\Hid (((s.drop k).take m).all Gr.dig=true/\OwnRow intL wr w.heap.size 3 (.slice A m c) (vals ((s.drop k).take m))/\Below w.heap.size w wr)) (fun s1 _ _=>s.length-(intOf s1).toNat)
 case atStart=>exact⟨0,none,0,by omega,rfl,rfl,hid ⟨by simp,OwnRow.nil,Below.refl _ _⟩⟩
 case round=>
  obtain⟨m,A,c,r,rfl,rfl,a⟩:=hrel;have g:(vals ((s.drop k).take m)).length=m:=by simp[vals];omega
  have t:=hid g;have h:Hid (w.heap.size<=wr.heap.size):=hid a.out.2.2.size;clear g;by_cases hlt:k+m<s.length
  .have n:((k+m:Nat):Int)<(s.length:Int):=by omega
   obtain⟨b,j⟩:∃b:Nat,(s[k+m]'(by omega)).toNat=b:=⟨_,rfl⟩
   have hbv:(((⟨s.toArray⟩:ByteArray)[k+m]'(by simpa[ByteArray.size]using hlt)).toNat:Int)=(b:Int):=by rw[<-j];rfl
   have hbl:b<256:=by rw[<-j];exact(s[k+m]'hlt).toNat_lt
   have i:Hid (Gr.dig (s[k+m]'hlt)=(decide (48<=b) && decide (b<=57))/\Gr.dv (s[k+m]'hlt)=b-48):=hid ⟨by
    rw[Bool.eq_iff_iff,zbf,j];simp,by unfold Gr.dv;rw[j]⟩
   clear j;by_cases hd:48<=b/\b<=57
   .obtain⟨f,B⟩:=hd;have l:(48:Int)<=(b:Int):=by omega
    have D:(b:Int)<=57:=by omega
    have p:Hid ((s.drop k).take (m+1)=(s.drop k).take m++[s[k+m]'hlt]):=hid (by
     rw[List.take_succ_eq_append_getElem (by simp;omega),List.getElem_drop])
    go_upto_region 3 with fail;obtain⟨x,E⟩:∃x:Nat,b-48=x:=⟨_,rfl⟩
    have y:(b:Int)-48=(x:Int):=by omega
    have J:=hid E;clear E;go_wp2_with (at_builtin;go_must (refine zaa _ rfl (.tmp 23) (.tmp 29) 38 3 8 rfl intT w.heap.size (.slice A m c) (vals ((s.drop k).take m)) rfl (a.out.2.1.alloc _) _ _ 1 [x] rfl (RowAt.lit1 _ _ (by first|rfl| (rw[y];rfl)) _ ?_) ?_ ?_ ?_))
    any_goals (first|rfl| (have:=t.out;simp;omega)| (rw[World.size_alloc];have:=h.out;omega))
    intro v' C e F v;have q:Below w.heap.size w C:=(a.out.2.2.alloc h.out _).trans ((a.out.2.1.alloc _).grown_below F (by rw[World.size_alloc];have:=h.out;omega));obtain⟨H,I,o,_⟩:=e.form;have d:(vals ((s.drop k).take m)++[x]).length=m+1:=by rw[List.length_append,t.out];rfl
    rw[d]at o;subst o;have z:Hid (((s.drop k).take (m+1)).all Gr.dig=true/\OwnRow intL C w.heap.size 3 (.slice H (m+1) I) (vals ((s.drop k).take (m+1)))/\Below w.heap.size w C):=hid ⟨by
     rw[p.out,List.all_append,a.out.1];simp[i.out.1,f,B],by
     rw[p.out,show vals ((s.drop k).take m++[s[k+m]'hlt])=vals ((s.drop k).take m)++[x]from by simp[vals,i.out.2,J.out]];exact e,q⟩
    clear e F v q d;go_wp2;go_roundw
    case rel=>exact⟨m+1,H,I,by omega,by go_num,rfl,z⟩
    case measure=>simp[intOf];omega
   .have u:Hid (rdg s k=(s.drop k).take m):=hid (zqa s k m a.out.1 r (fun G=>by rw[i.out.1];by_cases f:48<=b<;>simp[f]<;>omega));by_cases f:48<=b
    .have l:(48:Int)<=(b:Int):=by omega
     have D:¬(b:Int)<=57:=by omega
     go_wp2;go_ret2;exact zjz u.out (by omega) r a.out.2.1 a.out.2.2
    .have l:¬(48:Int)<=(b:Int):=by omega
     go_wp2;go_ret2;exact zjz u.out (by omega) r a.out.2.1 a.out.2.2
  .have n:¬((k+m:Nat):Int)<(s.length:Int):=by omega
   have u:Hid (rdg s k=(s.drop k).take m):=hid (zqa s k m a.out.1 r (fun G=>absurd G hlt));go_wp2;go_ret2;exact zjz u.out (by omega) r a.out.2.1 a.out.2.2
theorem zc9 (n:Nat) (hn:n<=4611686018427387904) (w:World):Calls prog 151 #[.int .i64 (n:Int)] w fun e w'=>e=.returned (.string ⟨(Lib.decDigits n).toArray⟩)/\Below w.heap.size w w':=by
 induction n using Nat.strongRecOn generalizing w with
 |_ n ih=>
  have h0:¬(n:Int)<0:=by omega
  by_cases h9:9<n
  .have s:(9:Int)<(n:Int):=by omega
   have k:=hid (fun W=>ih (n /10) (by omega) (by omega) W);have j:=hid (fun W=>ih (n%10) (by omega) (by omega) W);have z:=hid (zaw (u:=n) (by omega));have C:((n:Int) /10)=((n /10:Nat):Int):=by omega
   have A:((n:Int)%10)=((n%10:Nat):Int):=by omega
   have p:(Lib.decDigits (n /10)).length<=20:=by rw[Lib.decDigits_length];exact zbm 19 _ (by omega)
   have x:(Lib.decDigits (n%10)).length<=20:=by rw[Lib.decDigits_length];exact zbm 19 _ (by omega)
   have f:=fun W=>zac (Lib.decDigits (n /10)) (Lib.decDigits (n%10)) (by omega) W
   have y:Lib.decDigits n=Lib.decDigits (n /10)++Lib.decDigits (n%10):=by rw[z.out,Lib.decDigits_one (i:=n%10) (by omega)]
   obtain⟨E,b⟩:=ex (Lib.decDigits (n /10))
   obtain⟨D,a⟩:=ex (Lib.decDigits (n%10))
   have v:Hid (Lib.decDigits n=E++D):=hid (by rw[y,b,a]);rw[b,a]at f;rw[b,<-C]at k;rw[a,<-A]at j;have HN:=hid hn;have hnI:(n:Int)<=4611686018427387904:=by omega
   clear ih C A p x y b a z hn;go_enter func151,ntmps151;go_wp2_with fail;refine(k.out _).mono ?_;rintro e w1 ⟨rfl,d⟩;have o:=hid d;clear d;go_wp2_with fail;refine(j.out _).mono ?_;rintro e w2 ⟨rfl,m⟩;have q:=hid (o.out.trans (m.mono o.out.size));clear m;go_wp2;go_ret;rw[v.out];exact⟨rfl,q.out⟩
  .have s:¬(9:Int)<(n:Int):=by omega
   obtain⟨c,t⟩:∃c:UInt8,c=UInt8.ofNat (48+n):=⟨_,rfl⟩
   have h:(48:Int)+(n:Int)=(c.toNat:Int):=by rw[t,UInt8.toNat_ofNat'];omega
   have v:Hid (Lib.decDigits n=[c]):=hid (by rw[t];exact Lib.decDigits_one (by omega));have g:=fun W=>zdv (B:=w.heap.size+1) W [c] (some ⟨w.heap.size,0,none⟩) 1
   have r:=hid g;have hn9:(n:Int)<=9:=by omega
   have hn0:(0:Int)<=(n:Int):=by omega
   clear ih t g hn;go_enter func151,ntmps151;go_upto_region 5 with fail;have l:(convert 81 9 (.slice (some ⟨w.heap.size,0,none⟩) 1 1)).run prog (w.alloc (.cells #[.int .u8 (c.toNat:Int)] 5))=.ok (.string ⟨[c].toArray⟩) (w.alloc (.cells #[.int .u8 (c.toNat:Int)] 5)):=r.out (w.alloc (.cells #[.int .u8 (c.toNat:Int)] 5)) (RowAt.lit1 c _ rfl _ rfl);rw[<-h]at l;clear h;go_wp2;go_ret;rw[v.out];exact⟨rfl,(Below.refl _ _).alloc (Nat.le_refl _) _⟩
theorem zj0 (n:Int) (h0:-4611686018427387904<=n) (h1:n<=4611686018427387904) (w:World):Calls prog 151 #[.int .i64 n] w fun e w'=>e=.returned (.string ⟨(Lib.itoa n).toArray⟩)/\Below w.heap.size w w':=by
 by_cases hn:n<0
 .have d:=hid (fun W=>zc9 n.natAbs (by omega) W);rw[show(n.natAbs:Int)=-n from by omega]at d;have c:(Lib.decDigits n.natAbs).length<=20:=by rw[Lib.decDigits_length];exact zbm 19 _ (by omega)
  have hadd:=fun W=>zac [45] (Lib.decDigits n.natAbs) (by simp;omega) W
  have f:Hid (Lib.itoa n=[45]++Lib.decDigits n.natAbs):=hid (by unfold Lib.itoa;rw[if_pos hn];rfl);clear c;go_enter func151,ntmps151;go_wp2_with fail;refine(d.out _).mono ?_;rintro e w1 ⟨rfl,a⟩;have b:=hid a;clear a;go_wp2;go_ret;rw[f.out];exact⟨rfl,b.out⟩
 .have:=zc9 n.toNat (by omega) w;rw[show(n.toNat:Int)=n from by omega]at this;unfold Lib.itoa;rw[if_neg hn];exact this
theorem zms (x:Gr.Dn) (A:Option Addr) (c:Nat) (hl:x.d.length<=1073741823) (w:World):
 Calls prog 117 #[.agg #[.bool x.neg,.slice A x.d.length c,.int .i64 x.e]] w fun e w'=>e=.returned (.int .i64 (lim x:Nat))/\Below w.heap.size w w':=by
 obtain⟨neg,d,e⟩:=x;simp only at hl ⊢;have g:Below w.heap.size w (w.alloc (.cells #[.bool neg,.slice A d.length c,.int .i64 e] 134)):=(Below.refl _ _).alloc (Nat.le_refl _) _;have b:=hid g;clear g;by_cases h1:400<d.length
 .have a:Hid (lim ⟨neg,d,e⟩=6):=hid (by unfold lim;rw[if_pos h1]);have f:(400:Int)<(d.length:Int):=by omega
  go_enter func117,ntmps117;go_wp2;go_ret;rw[a.out];exact⟨rfl,b.out⟩
 .have f:¬(400:Int)<(d.length:Int):=by omega
  by_cases h2:2000<e
  .have a:Hid (lim ⟨neg,d,e⟩=2):=hid (by unfold lim;rw[if_neg h1,if_pos (.inr h2)]);go_enter func117,ntmps117;go_wp2;go_ret;rw[a.out];exact⟨rfl,b.out⟩
  .by_cases h3:e< -2000
   .have a:Hid (lim ⟨neg,d,e⟩=2):=hid (by unfold lim;rw[if_neg h1,if_pos (.inl h3)]);go_enter func117,ntmps117;go_wp2;go_ret;rw[a.out];exact⟨rfl,b.out⟩
   .have a:Hid (lim ⟨neg,d,e⟩=0):=hid (by unfold lim;rw[if_neg h1,if_neg (fun h=>h.elim h3 h2)]);go_enter func117,ntmps117;go_wp2;go_ret;rw[a.out];exact⟨rfl,b.out⟩
theorem zqb (neg:Bool) (A:Option Addr) (n c:Nat) (e:Int) (w:World):
 Calls prog 176 #[.agg #[.bool neg,.slice A n c,.int .i64 e]] w fun e' w'=>e'=.returned (.string ⟨(signS neg).toArray⟩)/\Below w.heap.size w w':=by
 have a:Below w.heap.size w (w.alloc (.cells #[.bool neg,.slice A n c,.int .i64 e] 134)):=(Below.refl _ _).alloc (Nat.le_refl _) _;have b:=hid a;clear a;cases neg
 all_goals
  go_enter func176,ntmps176;go_wp2;go_ret;exact⟨rfl,b.out⟩
theorem ztf (A:Option Addr) (d:List Nat) (c:Nat) (hl:d.length<=1073741823) (hd:∀v∈d,v<10) (w:World) (h:RowAt intL w w.heap.size A d):
 Calls prog 177 #[.slice A d.length c] w fun e' w'=>e'=.returned (.string ⟨(d.map Gr.ch).toArray⟩)/\Below w.heap.size w w':=by
 have y:=hid hd;have i:=hid h;clear hd h;go_enter func177,ntmps177;go_wp2_with fail;go_loopw [3,4] (fun s3 s4 wr=>∃k:Nat,k<=d.length/\s3=.string ⟨((d.take k).map Gr.ch).toArray⟩/\s4=.int .i64 k/\Hid (Below w.heap.size w wr)) (fun _ s4 _=>d.length-(intOf s4).toNat)
 case atStart=>exact⟨0,by omega,rfl,rfl,hid (Below.refl _ _)⟩
 case round=>
  obtain⟨k,hk,rfl,rfl,o⟩:=hrel;by_cases hlt:k<d.length
  .have j:(k:Int)<(d.length:Int):=by omega
   obtain⟨v,n⟩:=ex (d[k])
   have b:v<10:=by rw[<-n];exact y.out _ (List.getElem_mem hlt)
   obtain⟨ad,rfl,_,C⟩:=zae (i.out.below o.out) hlt;rw[n]at C;have p:=hid (fun W=>zc9 v (by omega) W);rw[Lib.decDigits_one b,show[UInt8.ofNat (48+v)]=[Gr.ch v]from rfl]at p;have l:((d.take k).map Gr.ch).length=k:=by simp;omega
   have f:=fun W=>zac ((d.take k).map Gr.ch) [Gr.ch v] (by rw[l];simp;omega) W
   have a:Hid ((d.take (k+1)).map Gr.ch=(d.take k).map Gr.ch++[Gr.ch v]):=hid (by
    rw[List.take_succ_eq_append_getElem hlt,List.map_append,n];rfl)
   obtain⟨r,t⟩:=ex ((d.take k).map Gr.ch)
   obtain⟨r2,g⟩:=ex ((d.take (k+1)).map Gr.ch)
   obtain⟨x,u⟩:∃x:Gr.Str,[Gr.ch v]=x:=⟨_,rfl⟩
   rw[t]at f a ⊢;rw[g]at a;rw[u]at f a p;have s:=hid g;clear n b l t g u;go_wp2_with fail;refine(p.out _).mono ?_;rintro e z ⟨rfl,m⟩;have q:Hid (Below w.heap.size w z):=hid (o.out.trans (m.mono o.out.size));clear m;go_wp2;go_roundw
   case rel=>exact⟨k+1,by omega,by rw[s.out,a.out],by go_num,q⟩
   case measure=>simp[intOf];omega
  .have j:¬(k:Int)<(d.length:Int):=by omega
   have B:Hid ((d.map Gr.ch).take k=d.map Gr.ch):=hid (List.take_of_length_le (by simp;omega));go_wp2;go_ret;rw[B.out];exact⟨rfl,o.out⟩
theorem zqc (x:Gr.Dn) (A:Option Addr) (c:Nat) (hl:x.d.length<=1073741823) (hd:∀v∈x.d,v<10) (w:World) (h:RowAt intL w w.heap.size A x.d):
 Calls prog 150 #[.agg #[.bool x.neg,.slice A x.d.length c,.int .i64 x.e]] w fun e' w'=>e'=.returned (.string ⟨(coef x).toArray⟩)/\Below w.heap.size w w':=by
 obtain⟨neg,d,E⟩:=x;simp only at hl hd h ⊢;have i:=hid h;have y:=hid hd;clear h hd;obtain⟨r,l⟩:=ex (coef ⟨neg,d,E⟩)
 have t:=hid l;rw[l];clear l;go_enter func150,ntmps150;go_upto_region 1 with fail;obtain⟨b,j⟩:=ex (w.alloc (.cells #[.bool neg,.slice A d.length c,.int .i64 E] 134))
 obtain⟨g,f⟩:=ex w.heap.size
 have a:Hid (Blk b g 134 #[.bool neg,.slice A d.length c,.int .i64 E]/\Below g w b/\b.heap.size=g+1):=hid (by rw[<-j,<-f];exact⟨Blk.new _ _ _,(Below.refl _ _).alloc (Nat.le_refl _) _,by simp⟩);have k:=hid f;rw[f]at i;(try rw[j]);(try rw[f]);clear j f;have B:b.cell? ⟨g,1,none⟩=some (.slice A d.length c):=a.out.1.cell 1;by_cases h0:d=[]
 .subst h0;have o:Hid (r=[48]):=hid (by rw[<-t.out];rfl);go_wp2;go_ret;rw[o.out,k.out];exact⟨rfl,a.out.2.1⟩
 .have hlp:=List.length_pos_iff.2 h0;have h1:¬((d.length:Int)=0):=by omega
  have h1b:((d.length:Int)==0)=false:=by simpa using h0
  have o:Hid (r=signS neg++d.map Gr.ch):=hid (by rw[<-t.out];unfold coef;rw[if_neg h0];rfl);go_upto_region 3 with fail;clear B;have n:b.heap.size=g+1:=a.out.2.2;have u:Hid (∀W:WB b.heap.size b,Calls prog 176 #[.agg #[.bool neg,.slice A d.length c,.int .i64 E]] W.w (fun e q=>e=.returned (.string ⟨(signS neg).toArray⟩)/\Below b.heap.size b q)/\Calls prog 177 #[.slice A d.length c] W.w (fun e q=>e=.returned (.string ⟨(d.map Gr.ch).toArray⟩)/\Below b.heap.size b q)):=hid (fun W=>⟨(zqb neg A d.length c E W.w).mono (fun _ _ ⟨s,m⟩=>⟨s,W.h.trans (m.mono W.h.size)⟩),(ztf A d c hl y.out W.w (((i.out.below a.out.2.1).below (W.h.mono (by omega))).more (by have:=W.h.size;omega))).mono (fun _ _ ⟨s,m⟩=>⟨s,W.h.trans (m.mono W.h.size)⟩)⟩);have p0:∀W:WB b.heap.size b,W.w.cell? ⟨g,0,none⟩=some (.bool neg):=fun W=>(W.h.cell (p:=⟨g,0,none⟩) (by simp;omega)).trans (a.out.1.cell 0)
  have p1:∀W:WB b.heap.size b,W.w.cell? ⟨g,1,none⟩=some (.slice A d.length c):=fun W=>(W.h.cell (p:=⟨g,1,none⟩) (by simp;omega)).trans (a.out.1.cell 1)
  have p2:∀W:WB b.heap.size b,W.w.cell? ⟨g,2,none⟩=some (.int .i64 E):=fun W=>(W.h.cell (p:=⟨g,2,none⟩) (by simp;omega)).trans (a.out.1.cell 2)
  clear n;have hadd:=fun W=>zac (signS neg) (d.map Gr.ch) (by have:=zdj neg;rw[List.length_map];omega) W
  refine zab b.heap.size b (by kernel_rfl) (by kernel_rfl) (Below.refl _ _) ?_
  repeat (go_big_quiet_step ((first| (with_reducible refine Calls.grow (u.out _).1)| (with_reducible refine Calls.grow (u.out _).2))))
  refine wpQuiet_nil ?_;rintro _ ⟨z,rfl⟩;go_wp2;go_ret;rw[o.out,k.out];exact⟨rfl,a.out.2.1.trans (z.h.mono (by have:=a.out.2.2;omega))⟩
theorem zqd (x:Gr.Dn) (A:Option Addr) (c:Nat) (hl:x.d.length<=1073741823) (hd:∀v∈x.d,v<10) (h0:-4611686018427387904<=x.e) (h1:x.e<=4611686018427387904) (w:World) (h:RowAt intL w w.heap.size A x.d):
 Calls prog 118 #[.agg #[.bool x.neg,.slice A x.d.length c,.int .i64 x.e]] w fun e' w'=>e'=.returned (.string ⟨(Gr.text x).toArray⟩)/\Below w.heap.size w w':=by
 have l:=hid (fun(W:World) (hW:RowAt intL W W.heap.size A x.d)=>zqc x A c hl hd W hW);have q:(coef x).length<=1073741825:=by
  unfold coef;split
  .simp
  .have:=zdj x.neg;unfold signS at this;rw[List.length_append,List.length_map];omega
 have n:=zgy x.e (by omega) (by omega);obtain⟨r,o⟩:=ex (coef x)
 obtain⟨H,j⟩:=ex (Gr.text x)
 have u:Hid (H=r++101::Lib.itoa x.e):=hid (by rw[<-j,<-o];rfl);rw[o]at l q;rw[j];clear o j;obtain⟨neg,d,E⟩:=x;simp only at hl h0 h1 h l n u ⊢;obtain⟨t,D⟩:=ex (Lib.itoa E)
 have m:=hid (fun(W:World)=>zj0 E h0 h1 W);rw[D]at n u m;clear D;have i:=hid h;clear h hd;go_enter func118,ntmps118;go_upto_region 1 with fail;obtain⟨a,k⟩:=ex (w.alloc (.cells #[.bool neg,.slice A d.length c,.int .i64 E] 134))
 obtain⟨g,f⟩:=ex w.heap.size
 have b:Hid (Blk a g 134 #[.bool neg,.slice A d.length c,.int .i64 E]/\Below g w a/\a.heap.size=g+1):=hid (by rw[<-k,<-f];exact⟨Blk.new _ _ _,(Below.refl _ _).alloc (Nat.le_refl _) _,by simp⟩);have s:=hid f;rw[f]at i;(try rw[k]);(try rw[f]);clear k f;have z:a.heap.size=g+1:=b.out.2.2;have F:Hid (∀W:WB a.heap.size a,Calls prog 150 #[.agg #[.bool neg,.slice A d.length c,.int .i64 E]] W.w (fun e B=>e=.returned (.string ⟨r.toArray⟩)/\Below a.heap.size a B)/\Calls prog 151 #[.int .i64 E] W.w (fun e B=>e=.returned (.string ⟨t.toArray⟩)/\Below a.heap.size a B)):=hid (fun W=>⟨(l.out W.w (((i.out.below b.out.2.1).below (W.h.mono (by omega))).more (by have:=W.h.size;omega))).mono (fun _ _ ⟨C,y⟩=>⟨C,W.h.trans (y.mono W.h.size)⟩),(m.out W.w).mono (fun _ _ ⟨C,y⟩=>⟨C,W.h.trans (y.mono W.h.size)⟩)⟩);have p0:∀W:WB a.heap.size a,W.w.cell? ⟨g,0,none⟩=some (.bool neg):=fun W=>(W.h.cell (p:=⟨g,0,none⟩) (by simp;omega)).trans (b.out.1.cell 0)
 have p1:∀W:WB a.heap.size a,W.w.cell? ⟨g,1,none⟩=some (.slice A d.length c):=fun W=>(W.h.cell (p:=⟨g,1,none⟩) (by simp;omega)).trans (b.out.1.cell 1)
 have p2:∀W:WB a.heap.size a,W.w.cell? ⟨g,2,none⟩=some (.int .i64 E):=fun W=>(W.h.cell (p:=⟨g,2,none⟩) (by simp;omega)).trans (b.out.1.cell 2)
 have hadd:=fun W=>zac r [101] (by simp;omega) W
 have hadd2:=fun W=>zac (r++[101]) t (by simp;omega) W
 clear z;refine zab a.heap.size a (by kernel_rfl) (by kernel_rfl) (Below.refl _ _) ?_
 repeat (go_big_quiet_step ((first| (with_reducible refine Calls.grow (F.out _).1)| (with_reducible refine Calls.grow (F.out _).2))))
 refine wpQuiet_nil ?_;rintro _ ⟨G,rfl⟩;go_wp2;go_ret;rw[u.out,s.out];exact⟨rfl,b.out.2.1.trans (G.h.mono (by have:=b.out.2.2;omega))⟩
theorem zdl (date time zone:Bool) (y m d h mi c nanos:Nat) (off:Int) (late:Bool) (hy:y<=999999999) (hm:m<=999999999) (hd:d<=999999999) (hh:h<=999999999) (hmi:mi<=999999999) (hc:c<=999999999) (hn:nanos<=999999999) (w:World):
 Calls prog 156 #[.agg #[.bool date,.bool time,.bool zone,.int .i64 (y:Int),.int .i64 (m:Int),.int .i64 (d:Int),.int .i64 (h:Int),.int .i64 (mi:Int),.int .i64 (c:Int),.int .i64 (nanos:Int),.int .i64 off,.bool late]] w fun e w'=>e=.returned (.string ⟨((if date=true then dateS y m d else[])++(if(date && time)=true then[84]else[])++(if time=true then clkS h mi c nanos else[])++(if zone=true then[90]else[]):Gr.Str).toArray⟩)/\Below w.heap.size w w':=by
 have M:=hid (fun W=>zcc y 4 (y:Int) 4 rfl rfl (by omega) (by omega) W);have aN:=za2 4 y;have Q:=hid (fun W=>zcc m 2 (m:Int) 2 rfl rfl (by omega) (by omega) W);have aJ:=za2 2 m;have X:=hid (fun W=>zcc d 2 (d:Int) 2 rfl rfl (by omega) (by omega) W);have aO:=za2 2 d;have ai:=hid (fun W=>zcc h 2 (h:Int) 2 rfl rfl (by omega) (by omega) W);have aD:=za2 2 h;have ad:=hid (fun W=>zcc mi 2 (mi:Int) 2 rfl rfl (by omega) (by omega) W);have ao:=za2 2 mi;have ah:=hid (fun W=>zcc c 2 (c:Int) 2 rfl rfl (by omega) (by omega) W);have ak:=za2 2 c;have aL:=hid (fun W=>zcc nanos 9 (nanos:Int) 9 rfl rfl (by omega) (by omega) W);have aH:=za2 9 nanos;obtain⟨py,Z⟩:=ex (Gr.pd 4 y)
 rw[Z]at M aN;obtain⟨pm,Y⟩:=ex (Gr.pd 2 m)
 rw[Y]at Q aJ;obtain⟨pd,ab⟩:=ex (Gr.pd 2 d)
 rw[ab]at X aO;obtain⟨ph,aa⟩:=ex (Gr.pd 2 h)
 rw[aa]at ai aD;obtain⟨pi,ae⟩:=ex (Gr.pd 2 mi)
 rw[ae]at ad ao;obtain⟨pc,ag⟩:=ex (Gr.pd 2 c)
 rw[ag]at ah ak;obtain⟨J,C⟩:=ex (Gr.pd 9 nanos)
 rw[C]at aL aH;have H:Hid (dateS y m d=py++[45]++pm++[45]++pd/\clkS h mi c nanos=ph++[58]++pi++[58]++pc++(if nanos=0 then([]:Gr.Str)else 46::trimZ J)/\Gr.pd 9 nanos=J):=hid ⟨by simp only[dateS,Z,Y,ab];simp,by simp only[clkS,nanoS,aa,ae,ag,C];simp,C⟩;clear Z Y ab aa ae ag C;obtain⟨r,hr⟩:∃r:Gr.Str,((if date=true then dateS y m d else[])++(if(date && time)=true then[84]else[])++(if time=true then clkS h mi c nanos else[])++(if zone=true then[90]else[]))=r:=⟨_,rfl⟩
 have aK:=hid hr;rw[hr];clear hr;obtain⟨p,t⟩:=ex w.heap.size
 obtain⟨a,af⟩:∃a,a=w.alloc (.cells #[.bool date,.bool time,.bool zone,.int .i64 (y:Int),.int .i64 (m:Int),.int .i64 (d:Int),.int .i64 (h:Int),.int .i64 (mi:Int),.int .i64 (c:Int),.int .i64 (nanos:Int),.int .i64 off,.bool late] 165):=⟨_,rfl⟩
 have b:Hid (Blk a p 165 (T12 date time zone (y:Int) (m:Int) (d:Int) (h:Int) (mi:Int) (c:Int) (nanos:Int) off late)/\Below p w a):=hid (by rw[af,<-t];exact⟨Blk.new _ _ _,(Below.refl _ _).alloc (Nat.le_refl _) _⟩);have aX:=hid t;have aG:Hid (∀W:WB a.heap.size a,Calls prog 186 #[.int .i64 (y:Int),.int .i64 4] W.w fun e w'=>e=.returned (.string ⟨py.toArray⟩)/\Below a.heap.size a w'):=hid (fun W=>(M.out W.w).mono (fun _ _ ⟨q,s⟩=>⟨q,W.h.trans (s.mono W.h.size)⟩));have aM:Hid (∀W:WB a.heap.size a,Calls prog 186 #[.int .i64 (m:Int),.int .i64 2] W.w fun e w'=>e=.returned (.string ⟨pm.toArray⟩)/\Below a.heap.size a w'):=hid (fun W=>(Q.out W.w).mono (fun _ _ ⟨q,s⟩=>⟨q,W.h.trans (s.mono W.h.size)⟩));have aC:Hid (∀W:WB a.heap.size a,Calls prog 186 #[.int .i64 (d:Int),.int .i64 2] W.w fun e w'=>e=.returned (.string ⟨pd.toArray⟩)/\Below a.heap.size a w'):=hid (fun W=>(X.out W.w).mono (fun _ _ ⟨q,s⟩=>⟨q,W.h.trans (s.mono W.h.size)⟩));have ay:Hid (∀W:WB a.heap.size a,Calls prog 186 #[.int .i64 (h:Int),.int .i64 2] W.w fun e w'=>e=.returned (.string ⟨ph.toArray⟩)/\Below a.heap.size a w'):=hid (fun W=>(ai.out W.w).mono (fun _ _ ⟨q,s⟩=>⟨q,W.h.trans (s.mono W.h.size)⟩));have aq:Hid (∀W:WB a.heap.size a,Calls prog 186 #[.int .i64 (mi:Int),.int .i64 2] W.w fun e w'=>e=.returned (.string ⟨pi.toArray⟩)/\Below a.heap.size a w'):=hid (fun W=>(ad.out W.w).mono (fun _ _ ⟨q,s⟩=>⟨q,W.h.trans (s.mono W.h.size)⟩));have al:Hid (∀W:WB a.heap.size a,Calls prog 186 #[.int .i64 (c:Int),.int .i64 2] W.w fun e w'=>e=.returned (.string ⟨pc.toArray⟩)/\Below a.heap.size a w'):=hid (fun W=>(ah.out W.w).mono (fun _ _ ⟨q,s⟩=>⟨q,W.h.trans (s.mono W.h.size)⟩));clear M Q X ai ad ah;go_enter func156,ntmps156;go_upto_region 2 with fail;(try rw[<-af]);(try rw[t]);clear af t;have q0:a.cell? ⟨p,0,none⟩=some (.bool date):=(b.out.1.below (Below.refl _ _) b.out.1.lt).cell 0;go_upto_if 6 with fail;go_cut [3] (fun s3 R=>∃S:Gr.Str,s3=.string ⟨S.toArray⟩/\S.length<=60/\Hid (S=(if date=true then dateS y m d else[])/\Below a.heap.size a R))
 case first=>
  cases date with
  |true=>
   go_upto_region 3 with fail;clear q0;have p3:∀W:WB a.heap.size a,W.w.cell? ⟨p,3,none⟩=some (.int .i64 (y:Int)):=fun W=>(b.out.1.below W.h b.out.1.lt).cell 3
   have p4:∀W:WB a.heap.size a,W.w.cell? ⟨p,4,none⟩=some (.int .i64 (m:Int)):=fun W=>(b.out.1.below W.h b.out.1.lt).cell 4
   have p5:∀W:WB a.heap.size a,W.w.cell? ⟨p,5,none⟩=some (.int .i64 (d:Int)):=fun W=>(b.out.1.below W.h b.out.1.lt).cell 5
   obtain⟨s1,z⟩:∃x:Gr.Str,py++[45]=x:=⟨_,rfl⟩
   have Ls1:s1.length<=20:=by rw[<-z];simp<;>omega
   have a5:=fun W=>zac py [45] (by first|omega| (simp<;>omega)) W
   rw[z]at a5;have aS:=hid z;clear z;obtain⟨s2,F⟩:∃x:Gr.Str,s1++pm=x:=⟨_,rfl⟩
   have Ls2:s2.length<=30:=by rw[<-F];simp<;>omega
   have aQ:=fun W=>zac s1 pm (by first|omega| (simp<;>omega)) W
   rw[F]at aQ;have aV:=hid F;clear F;obtain⟨s3,B⟩:∃x:Gr.Str,s2++[45]=x:=⟨_,rfl⟩
   have Ls3:s3.length<=40:=by rw[<-B];simp<;>omega
   have a8:=fun W=>zac s2 [45] (by first|omega| (simp<;>omega)) W
   rw[B]at a8;have bb:=hid B;clear B;obtain⟨s4,E⟩:∃x:Gr.Str,s3++pd=x:=⟨_,rfl⟩
   have a3:s4.length<=60:=by rw[<-E];simp<;>omega
   have a2:=fun W=>zac s3 pd (by first|omega| (simp<;>omega)) W
   rw[E]at a2;have a1:=hid E;clear E;refine zab a.heap.size a (by kernel_rfl) (by kernel_rfl) (Below.refl _ _) ?_
   iterate 14 (try go_big_quiet_step ((first| (with_reducible refine Calls.grow (aG.out _))| (with_reducible refine Calls.grow (aM.out _))| (with_reducible refine Calls.grow (aC.out _)))))
   refine wpQuiet_nil ?_;rintro _ ⟨wz,rfl⟩;go_wp2;go_meet;exact⟨s4,rfl,a3,hid ⟨by rw[if_pos trivial,H.out.1,<-a1.out,<-bb.out,<-aV.out,<-aS.out],wz.h⟩⟩
  |false=>
   go_wp2;go_meet;exact⟨[],rfl,by simp,hid ⟨rfl,Below.refl _ _⟩⟩
 case rest=>
 obtain⟨S,rfl,hS,HS⟩:=hcut;clear q0;obtain⟨q0,q1⟩:=cells2 (b.out.1.below HS.out.2 b.out.1.lt);go_upto_region 4 with fail;obtain⟨T,N⟩:∃T,T=wc:=⟨_,rfl⟩
 subst N;go_cut [25] (fun s25 R=>s25=.bool (date && time)/\R=T)
 case first=>
  cases date<;>cases time
  all_goals
   go_wp2;go_meet;exact⟨rfl,rfl⟩
 case rest=>
 obtain⟨rfl,rfl⟩:=hcut;obtain⟨T,N⟩:∃T,T=wc:=⟨_,rfl⟩
 subst N;go_upto_if 25 with fail;obtain⟨dt,ac⟩:=ex (date && time)
 have aI:=hid ac;(try rw[ac]);clear ac;go_cut [3] (fun s3 R=>∃U:Gr.Str,s3=.string ⟨U.toArray⟩/\U.length<=61/\Hid (U=S++(if(date && time)=true then[84]else[])/\R=T))
 case first=>
  cases dt with
  |true=>
   obtain⟨s5,v⟩:∃x:Gr.Str,S++[84]=x:=⟨_,rfl⟩
   have a0:s5.length<=61:=by rw[<-v];simp<;>omega
   have aR:=fun W=>zac S [84] (by first|omega| (simp<;>omega)) W
   rw[v]at aR;have a4:=hid v;clear v;go_wp2;go_meet;exact⟨s5,rfl,a0,hid ⟨by rw[aI.out,if_pos rfl,a4.out],rfl⟩⟩
  |false=>
   go_wp2;go_meet;exact⟨S,rfl,by omega,hid ⟨by rw[aI.out];simp,rfl⟩⟩
 case rest=>
 obtain⟨U,rfl,hU,HU⟩:=hcut;obtain⟨wm,aU⟩:∃wm,wm=wc:=⟨_,rfl⟩
 subst aU;have P:Hid (Below a.heap.size a wm):=hid (by rw[HU.out.2];exact HS.out.2);clear q0 q1;have q1:wm.cell? ⟨p,1,none⟩=some (.bool time):=(b.out.1.below P.out b.out.1.lt).cell 1;go_upto_region 6 with fail;go_upto_if 29 with fail;go_cut [3] (fun s3 R=>∃V:Gr.Str,s3=.string ⟨V.toArray⟩/\V.length<=200/\Hid (V=U++(if time=true then clkS h mi c nanos else[])/\Below a.heap.size a R))
 case first=>
  cases time with
  |false=>
   go_wp2;go_meet;exact⟨U,rfl,by omega,hid ⟨by simp,P.out⟩⟩
  |true=>
   go_upto_region 7 with fail;clear q1;have p6:∀W:WB a.heap.size a,W.w.cell? ⟨p,6,none⟩=some (.int .i64 (h:Int)):=fun W=>(b.out.1.below W.h b.out.1.lt).cell 6
   have p7:∀W:WB a.heap.size a,W.w.cell? ⟨p,7,none⟩=some (.int .i64 (mi:Int)):=fun W=>(b.out.1.below W.h b.out.1.lt).cell 7
   have p8:∀W:WB a.heap.size a,W.w.cell? ⟨p,8,none⟩=some (.int .i64 (c:Int)):=fun W=>(b.out.1.below W.h b.out.1.lt).cell 8
   obtain⟨s6,A⟩:∃x:Gr.Str,U++ph=x:=⟨_,rfl⟩
   have Ls6:s6.length<=80:=by rw[<-A];simp<;>omega
   have ar:=fun W=>zac U ph (by first|omega| (simp<;>omega)) W
   rw[A]at ar;have aY:=hid A;clear A;obtain⟨s7,u⟩:∃x:Gr.Str,s6++[58]=x:=⟨_,rfl⟩
   have Ls7:s7.length<=90:=by rw[<-u];simp<;>omega
   have aB:=fun W=>zac s6 [58] (by first|omega| (simp<;>omega)) W
   rw[u]at aB;have aZ:=hid u;clear u;obtain⟨s8,G⟩:∃x:Gr.Str,s7++pi=x:=⟨_,rfl⟩
   have Ls8:s8.length<=110:=by rw[<-G];simp<;>omega
   have au:=fun W=>zac s7 pi (by first|omega| (simp<;>omega)) W
   rw[G]at au;have aW:=hid G;clear G;obtain⟨s9,D⟩:∃x:Gr.Str,s8++[58]=x:=⟨_,rfl⟩
   have Ls9:s9.length<=120:=by rw[<-D];simp<;>omega
   have az:=fun W=>zac s8 [58] (by first|omega| (simp<;>omega)) W
   rw[D]at az;have a7:=hid D;clear D;obtain⟨s10,k⟩:∃x:Gr.Str,s9++pc=x:=⟨_,rfl⟩
   have Ls10:s10.length<=140:=by rw[<-k];simp<;>omega
   have L:=fun W=>zac s9 pc (by first|omega| (simp<;>omega)) W
   rw[k]at L;have aA:=hid k;clear k;refine zab a.heap.size a (by kernel_rfl) (by kernel_rfl) P.out ?_
   iterate 16 (try go_big_quiet_step ((first| (with_reducible refine Calls.grow (ay.out _))| (with_reducible refine Calls.grow (aq.out _))| (with_reducible refine Calls.grow (al.out _)))))
   refine wpQuiet_nil ?_;rintro _ ⟨wy,rfl⟩;have aw:Hid (U++clkS h mi c nanos=s10++(if nanos=0 then([]:Gr.Str)else 46::trimZ J)):=hid (by rw[H.out.2.1,<-aA.out,<-a7.out,<-aW.out,<-aZ.out,<-aY.out];simp);clear p6 p7 p8 ar aB au az L;have q9:wy.w.cell? ⟨p,9,none⟩=some (.int .i64 (nanos:Int)):=(b.out.1.below wy.h b.out.1.lt).cell 9;go_wp2_with fail;refine(aL.out _).mono ?_;rintro e w5 ⟨rfl,av⟩;have aP:Hid (Below a.heap.size a w5):=hid (wy.h.trans (av.mono wy.h.size));clear av q9;go_wp2_with fail;go_loop [4] (fun s4=>∃f:Gr.Str,s4=.string ⟨f.toArray⟩/\f.length<=9/\Hid (trimZ f=trimZ J)) (fun s4=>match s4 with| .string x=>x.size|_=>0)
   case atStart=>exact⟨J,rfl,by omega,hid rfl⟩
   case round=>
    obtain⟨f,rfl,aE,I⟩:=hrel;rcases List.eq_nil_or_concat f with rfl|⟨g,ch,hfg⟩
    .have O:Hid (U++clkS h mi c nanos=s10):=hid (by
      rw[aw.out];have h1:=I.out;rw[show(if nanos=0 then([]:Gr.Str)else 46::trimZ J)=[]from by
       by_cases h0:nanos=0
       .rw[if_pos h0]
       .exact absurd h1.symm (by rw[<-H.out.2.2];exact zo2 9 nanos (by omega) (by omega))]
      simp)
     go_wp2;go_meet;exact⟨s10,rfl,by omega,hid ⟨by rw[if_pos trivial,O.out],aP.out⟩⟩
    .have hF:f=g++[ch]:=by rw[hfg];simp
     have hgl:g.length<=8:=by rw[hF]at aE;simp at aE;omega
     have hg2:(f.length:Int)-1=(g.length:Int):=by rw[hF];simp
     have i:g.length<f.length:=by rw[hF];simp
     have o:f[g.length]'i=ch:=by
      have:∀l:Gr.Str,l=g++[ch]->∀h,l[g.length]'h=ch:=by rintro _ rfl h;simp
      exact this f hF i
     have hcut:=fun W=>zuj f g.length (g.length:Int) rfl (Nat.le_of_lt i) W
     rw[show f.take g.length=g from by rw[hF];simp]at hcut;have aj:Hid (trimZ f=if ch=48 then trimZ g else f):=hid (by rw[hF];exact zf5 g ch);clear hF hfg;have hF0:(0:Int)<(f.length:Int):=by omega
     have K:0<f.length:=by omega
     by_cases hz:ch=48
     .have a6:=zax f g.length i ch 48 48 (by decide) o hz;have ba:=zaq f g.length i ch 48 48 (by decide) o hz;have a9:Hid (trimZ g=trimZ J):=hid (by rw[<-I.out,aj.out,if_pos hz]);have hms:g.length<f.length:=i;clear o hz;go_wp2;go_round
      case rel=>exact⟨g,rfl,by omega,a9⟩
      case measure=>simp[ByteArray.size];omega
     .have a6:=zan f g.length i ch 48 48 (by decide) o hz;have ba:=zar f g.length i ch 48 48 (by decide) o hz;have am:Hid (trimZ J=f):=hid (by rw[<-I.out,aj.out,if_neg hz]);clear o hz hcut;obtain⟨s11,j⟩:∃x:Gr.Str,s10++[46]=x:=⟨_,rfl⟩
      have Ls11:s11.length<=150:=by rw[<-j];simp<;>omega
      have ap:=fun W=>zac s10 [46] (by first|omega| (simp<;>omega)) W
      rw[j]at ap;have aF:=hid j;clear j;obtain⟨s12,n⟩:∃x:Gr.Str,s11++f=x:=⟨_,rfl⟩
      have Ls12:s12.length<=170:=by rw[<-n];simp<;>omega
      have ax:=fun W=>zac s11 f (by first|omega| (simp<;>omega)) W
      rw[n]at ax;have an:=hid n;clear n;have O:Hid (U++clkS h mi c nanos=s12):=hid (by
       rw[aw.out,<-an.out,<-aF.out];have aT:¬nanos=0:=fun h0=>by
        have h1:=H.out.2.2;rw[h0,zo0]at h1;have h2:=am.out;rw[<-h1,zl1]at h2;rw[<-h2]at K;simp at K
       rw[if_neg aT,am.out];simp)
      go_wp2;go_meet;exact⟨s12,rfl,by omega,hid ⟨by rw[if_pos trivial,O.out],aP.out⟩⟩
 case rest=>
 obtain⟨V,rfl,hV,I⟩:=hcut;clear q1;have q2:wc.cell? ⟨p,2,none⟩=some (.bool zone):=(b.out.1.below I.out.2 b.out.1.lt).cell 2;have b2:=fun W=>zac V [90] (by first|omega| (simp<;>omega)) W
 have HZ:Hid (Below w.heap.size w wc):=hid (by rw[aX.out];exact b.out.2.trans (I.out.2.mono (Nat.le_of_lt b.out.1.lt)));cases zone with
 |true=>
  have O:Hid (r=V++[90]):=hid (by rw[<-aK.out,I.out.1,HU.out.1,HS.out.1];rfl);go_wp2;go_ret;exact⟨by rw[O.out]<;>rfl,HZ.out⟩
 |false=>
  have O:Hid (r=V):=hid (by rw[<-aK.out,I.out.1,HU.out.1,HS.out.1];simp);go_wp2;go_ret;exact⟨by rw[O.out]<;>rfl,HZ.out⟩
theorem zp0 (y m d h mi c nanos:Nat) (off:Int) (late:Bool) (hy:y<=999999999) (hm:m<=999999999) (hd:d<=999999999) (hh:h<=999999999) (hmi:mi<=999999999) (hc:c<=999999999) (hn:nanos<=999999999) (w:World):
 Calls prog 156 #[.agg #[.bool true,.bool false,.bool false,.int .i64 (y:Int),.int .i64 (m:Int),.int .i64 (d:Int),.int .i64 (h:Int),.int .i64 (mi:Int),.int .i64 (c:Int),.int .i64 (nanos:Int),.int .i64 off,.bool late]] w fun e w'=>e=.returned (.string ⟨(dateS y m d:Gr.Str).toArray⟩)/\Below w.heap.size w w':=by
 simpa using zdl true false false y m d h mi c nanos off late hy hm hd hh hmi hc hn w
theorem zp1 (y m d h mi c nanos:Nat) (off:Int) (late:Bool) (hy:y<=999999999) (hm:m<=999999999) (hd:d<=999999999) (hh:h<=999999999) (hmi:mi<=999999999) (hc:c<=999999999) (hn:nanos<=999999999) (w:World):
 Calls prog 156 #[.agg #[.bool false,.bool true,.bool false,.int .i64 (y:Int),.int .i64 (m:Int),.int .i64 (d:Int),.int .i64 (h:Int),.int .i64 (mi:Int),.int .i64 (c:Int),.int .i64 (nanos:Int),.int .i64 off,.bool late]] w fun e w'=>e=.returned (.string ⟨(clkS h mi c nanos:Gr.Str).toArray⟩)/\Below w.heap.size w w':=by
 simpa using zdl false true false y m d h mi c nanos off late hy hm hd hh hmi hc hn w
theorem zp2 (y m d h mi c nanos:Nat) (off:Int) (late:Bool) (hy:y<=999999999) (hm:m<=999999999) (hd:d<=999999999) (hh:h<=999999999) (hmi:mi<=999999999) (hc:c<=999999999) (hn:nanos<=999999999) (w:World):
 Calls prog 156 #[.agg #[.bool true,.bool true,.bool false,.int .i64 (y:Int),.int .i64 (m:Int),.int .i64 (d:Int),.int .i64 (h:Int),.int .i64 (mi:Int),.int .i64 (c:Int),.int .i64 (nanos:Int),.int .i64 off,.bool late]] w fun e w'=>e=.returned (.string ⟨((dateS y m d++[84]++clkS h mi c nanos):Gr.Str).toArray⟩)/\Below w.heap.size w w':=by
 simpa using zdl true true false y m d h mi c nanos off late hy hm hd hh hmi hc hn w
theorem zp3 (y m d h mi c nanos:Nat) (off:Int) (late:Bool) (hy:y<=999999999) (hm:m<=999999999) (hd:d<=999999999) (hh:h<=999999999) (hmi:mi<=999999999) (hc:c<=999999999) (hn:nanos<=999999999) (w:World):
 Calls prog 156 #[.agg #[.bool true,.bool true,.bool true,.int .i64 (y:Int),.int .i64 (m:Int),.int .i64 (d:Int),.int .i64 (h:Int),.int .i64 (mi:Int),.int .i64 (c:Int),.int .i64 (nanos:Int),.int .i64 off,.bool late]] w fun e w'=>e=.returned (.string ⟨((dateS y m d++[84]++clkS h mi c nanos++[90]):Gr.Str).toArray⟩)/\Below w.heap.size w w':=by
 simpa using zdl true true true y m d h mi c nanos off late hy hm hd hh hmi hc hn w
namespace Utf
def rowOf (c:Nat):Nat×Nat×Nat×Nat:=
 if 192<=c/\c<224 then(2,c-192,128,2047)
 else if 224<=c/\c<240 then(3,c-224,2048,65535)
 else if 240<=c/\c<248 then(4,c-240,65536,1114111)
 else(0,0,0,0)
def goOn:Nat->Str->Option Nat
 |v,[]=>some v
 |v,c::r=>if c<128 || 191<c then none else goOn (64*v+(c.toNat-128)) r
def widen:Nat->Nat×Nat->Nat×Nat
 | 0,p=>p
 |k+1,p=>widen k (64*p.1,64*p.2+63)
def begins (b:Str):Nat×Nat:=
 match b with
 | []=>(0,0)
 |c::r=>
  if c<128/\r=[]then(c.toNat,1)
  else
   let n:=(rowOf c.toNat).1
   if r.length+1>n then(0,0)
   else match goOn (rowOf c.toNat).2.1 r with
    |none=>(0,0)
    |some v=>
     let p:=widen (n-(r.length+1)) (v,v)
     if p.2<(rowOf c.toNat).2.2.1\/p.1>(rowOf c.toNat).2.2.2\/(p.1>=55296/\p.2<=57343)then(0,0)else(p.1,n)
def refAt (r:Str):Nat×Nat:=
 if 1<=r.length/\(begins (r.take 1)).2=1 then begins (r.take 1)
 else if 2<=r.length/\(begins (r.take 2)).2=2 then begins (r.take 2)
 else if 3<=r.length/\(begins (r.take 3)).2=3 then begins (r.take 3)
 else if 4<=r.length/\(begins (r.take 4)).2=4 then begins (r.take 4)
 else(0,0)
end Utf
end Go.Proofs.YtpjmhafmeieloabGreatDoor
namespace Go.Proofs.YtpjmhafmeieloabGreatDoor
namespace Utf
theorem lt8 (c:UInt8) (k:Nat) (hk:k<256):(c<UInt8.ofNat k)↔c.toNat<k:=by
 rw[UInt8.lt_iff_toNat_lt,UInt8.toNat_ofNat_of_lt' (by simpa using hk)]
theorem gt8 (c:UInt8) (k:Nat) (hk:k<256):(UInt8.ofNat k<c)↔k<c.toNat:=by
 rw[UInt8.lt_iff_toNat_lt,UInt8.toNat_ofNat_of_lt' (by simpa using hk)]
def isC (d:UInt8):Bool:=decide (128<=d.toNat) && decide (d.toNat<=191)
theorem zb8 (v:Nat) (d:UInt8) (r:Str):goOn v (d::r)=if isC d then goOn (64*v+(d.toNat-128)) r else none:=by
 have a:(d<128)↔d.toNat<128:=lt8 d 128 (by omega);have b:(191<d)↔191<d.toNat:=gt8 d 191 (by omega);rw[goOn];by_cases hd:isC d=true
 .have:128<=d.toNat/\d.toNat<=191:=by simpa[isC]using hd
  rw[if_pos hd,if_neg];simp[a,b];omega
 .rw[if_neg hd,if_pos];simp only[isC,Bool.and_eq_true,decide_eq_true_eq]at hd;simp[a,b];omega
theorem zcx (c d:UInt8) (r:Str):begins (c::d::r)=
 if r.length+2>(rowOf c.toNat).1 then(0,0)
 else match goOn (rowOf c.toNat).2.1 (d::r)with
  |none=>(0,0)
  |some v=>if(widen ((rowOf c.toNat).1-(r.length+2)) (v,v)).2<(rowOf c.toNat).2.2.1\/(widen ((rowOf c.toNat).1-(r.length+2)) (v,v)).1>(rowOf c.toNat).2.2.2\/((widen ((rowOf c.toNat).1-(r.length+2)) (v,v)).1>=55296/\(widen ((rowOf c.toNat).1-(r.length+2)) (v,v)).2<=57343)then(0,0)else((widen ((rowOf c.toNat).1-(r.length+2)) (v,v)).1,(rowOf c.toNat).1):=by
 unfold begins;simp only[reduceCtorEq,and_false,if_false,List.length_cons]
 all_goals rfl
theorem zmu (c d:UInt8) (r:Str):(begins (c::d::r)).2=0\/((begins (c::d::r)).2=(rowOf c.toNat).1/\r.length+2<=(rowOf c.toNat).1):=by
 rw[zcx];split
 .exact .inl rfl
 .grind
theorem zmv (c:UInt8):(begins [c]).2=1↔c.toNat<128:=by
 have hlt:c.toNat<256:=c.toNat_lt;have a:(c<128)↔c.toNat<128:=by rw[UInt8.lt_iff_toNat_lt];rfl
 unfold begins;simp only[and_true,List.length_nil,a];by_cases hc:c.toNat<128
 .simp[hc]
 .rw[if_neg hc];simp only[hc,iff_false];unfold rowOf;split
  .simp only[goOn,widen];repeat' split
   all_goals simp
  .split
   .simp only[goOn,widen];repeat' split
    all_goals simp
   .split
    .simp only[goOn,widen];repeat' split
     all_goals simp
    .simp
theorem zwm (c:Nat) (h:192<=c/\c<224):rowOf c=(2,c-192,128,2047):=by unfold rowOf;rw[if_pos h]
theorem zqm (c:Nat) (h:224<=c/\c<240):rowOf c=(3,c-224,2048,65535):=by unfold rowOf;rw[if_neg (by omega),if_pos h]
theorem ztj (c:Nat) (h:240<=c/\c<248):rowOf c=(4,c-240,65536,1114111):=by unfold rowOf;rw[if_neg (by omega),if_neg (by omega),if_pos h]
theorem ztk (c:Nat) (h:c<192\/248<=c):rowOf c=(0,0,0,0):=by unfold rowOf;rw[if_neg (by omega),if_neg (by omega),if_neg (by omega)]
theorem zdn (c:UInt8) (r:Str) (n:Nat) (hc:¬c.toNat<128) (hn:(rowOf c.toNat).1=n) (_h2:2<=n\/n=0) (h4:n<=4):
 refAt (c::r)=if 2<=n/\n<=r.length+1/\(begins ((c::r).take n)).2=n then begins ((c::r).take n)else(0,0):=by
 have a:¬(begins ((c::r).take 1)).2=1:=by
  rw[show(c::r).take 1=[c]from rfl,zmv];exact hc
 have hoth:∀k,2<=k->k<=r.length+1->k≠n->¬(begins ((c::r).take k)).2=k:=by
  intro k hk b hkn;cases r with
  |nil=>rw[List.length_nil]at b;omega
  |cons d q=>
   obtain⟨j,rfl⟩:∃j,k=j+2:=⟨k-2,by omega⟩
   have:=zmu c d (q.take j);rw[show(c::d::q).take (j+2)=c::d::q.take j from rfl];have hl:(q.take j).length=j:=by rw[List.length_take];simp only[List.length_cons]at b;omega
   intro he;rcases this with h|h
   .omega
   .omega
 unfold refAt;rw[if_neg (fun h=>a h.2),List.length_cons];by_cases a2:n=2
 .grind
 .grind
def Agree (s:Str):Prop:=((dec s).1=65533/\(dec s).2=1/\(refAt s).2=0)\/(¬((dec s).1=65533/\(dec s).2=1)/\refAt s=dec s)
theorem zqn (c:UInt8) (r:Str) (hc:c.toNat<128):Agree (c::r):=by
 have b:(c<128)↔c.toNat<128:=lt8 c 128 (by omega);have a:dec (c::r)=(c.toNat,1):=by
  unfold dec;simp only[List.getD_cons_zero];rw[if_pos hc]
 have d:begins [c]=(c.toNat,1):=by
  unfold begins;simp only[and_true,b,hc,if_true]
 refine .inr ⟨by rw[a];simp only;omega,?_⟩;rw[a];unfold refAt;rw[show(c::r).take 1=[c]from rfl,d,if_pos ⟨by simp,rfl⟩]
theorem zmw (c:UInt8) (r:Str) (hc:128<=c.toNat) (h:c.toNat<192\/248<=c.toNat):Agree (c::r):=by
 have hlt:c.toNat<256:=c.toNat_lt;have a:dec (c::r)=(65533,1):=by
  unfold dec;simp only[List.getD_cons_zero];have e:(c.toNat /32==6)=false:=by simp;omega
  have d:(c.toNat /16==14)=false:=by simp;omega
  have b:(c.toNat /8==30)=false:=by simp;omega
  rw[if_neg (by omega),e,d,b];simp
 refine .inl ⟨by rw[a],by rw[a],?_⟩;rw[zdn c r 0 (by omega) (by rw[ztk _ h]) (.inr rfl) (by omega),if_neg (by omega)]
theorem zd0 (d:UInt8):(d.toNat /64==2)=isC d:=by
 have hlt:d.toNat<256:=d.toNat_lt;unfold isC;rw[Bool.eq_iff_iff];simp;omega
theorem zqo (c:UInt8) (r:Str) (h:192<=c.toNat/\c.toNat<224):Agree (c::r):=by
 have b:=zwm _ h;have a:=zdn c r 2 (by omega) (by rw[b]) (.inl (by omega)) (by omega);have k:(c.toNat /32==6)=true:=by simp;omega
 have j:(c.toNat /16==14)=false:=by simp;omega
 have i:(c.toNat /8==30)=false:=by simp;omega
 cases r with
 |nil=>
  have g:dec [c]=(65533,1):=by
   unfold dec;simp only[List.getD_cons_zero];rw[if_neg (by omega),k,j,i];simp
  exact .inl ⟨by rw[g],by rw[g],by rw[a,if_neg (by simp)]⟩
 |cons d q=>
  have m:begins ((c::d::q).take 2)=begins [c,d]:=rfl;have f:dec (c::d::q)=if isC d then(if 128<=c.toNat%32*64+d.toNat%64 then(c.toNat%32*64+d.toNat%64,2)else(65533,1))else(65533,1):=by
   unfold dec;simp only[List.getD_cons_zero,List.getD_cons_succ,List.length_cons];rw[if_neg (by omega),k,j,i,zd0];simp
  have e:begins [c,d]=if isC d then(if 128<=c.toNat%32*64+d.toNat%64 then(c.toNat%32*64+d.toNat%64,2)else(0,0))else(0,0):=by
   rw[zcx,b,if_neg (by simp),zb8];cases g:isC d with
   |false=>rfl
   |true=>
    have hd2:128<=d.toNat/\d.toNat<=191:=by simpa[isC]using g
    have l:64*(c.toNat-192)+(d.toNat-128)=c.toNat%32*64+d.toNat%64:=by omega
    simp only[if_true,goOn,List.length_nil,Nat.zero_add,Nat.sub_self,widen,l];by_cases hge:128<=c.toNat%32*64+d.toNat%64
    .grind
    .grind
  rw[m]at a;unfold Agree;rw[f,a,e];cases g:isC d with
  |false=>simp
  |true=>
   grind
end Utf
end Go.Proofs.YtpjmhafmeieloabGreatDoor
namespace Go.Proofs.YtpjmhafmeieloabGreatDoor
namespace Utf
theorem zio (v:Nat):Utf8.valid (v:Int)=(decide (v<55296) || (decide (57344<=v) && decide (v<=1114111))):=by
 unfold Utf8.valid;rw[Bool.eq_iff_iff];simp only[Bool.or_eq_true,Bool.and_eq_true,decide_eq_true_eq];omega
theorem zj2 (c:UInt8) (r:Str) (h:224<=c.toNat/\c.toNat<240):Agree (c::r):=by
 have f:=zqm _ h;have a:=zdn c r 3 (by omega) (by rw[f]) (.inl (by omega)) (by omega);have p:(c.toNat /32==6)=false:=by simp;omega
 have o:(c.toNat /16==14)=true:=by simp;omega
 have n:(c.toNat /8==30)=false:=by simp;omega
 match r,a with
 | [],a=>
  have b:dec [c]=(65533,1):=by
   unfold dec;simp only[List.getD_cons_zero];rw[if_neg (by omega),p,o,n];simp
  exact .inl ⟨by rw[b],by rw[b],by rw[a,if_neg (by simp)]⟩
 | [d],a=>
  have b:dec [c,d]=(65533,1):=by
   unfold dec;simp only[List.getD_cons_zero];rw[if_neg (by omega),p,o,n];simp
  exact .inl ⟨by rw[b],by rw[b],by rw[a,if_neg (by simp)]⟩
 |d::e::q,a=>
  have t:begins ((c::d::e::q).take 3)=begins [c,d,e]:=rfl;obtain⟨v,s⟩:∃v,v=c.toNat%16*4096+d.toNat%64*64+e.toNat%64:=⟨_,rfl⟩
  have k:dec (c::d::e::q)=if isC d && isC e then(if 2048<=v/\(v<55296\/57343<v)then(v,3)else(65533,1))else(65533,1):=by
   unfold dec;simp only[List.getD_cons_zero,List.getD_cons_succ,List.length_cons];rw[if_neg (by omega),p,o,n,zd0,zd0,<-s];have i:decide (1<q.length+1+1+1)=true:=by simp
   have g:decide (2<q.length+1+1+1)=true:=by simp
   rw[i,g];simp only[Bool.false_and,Bool.true_and,Bool.false_eq_true,if_false];have l:v<=65535:=by omega
   cases hdd:isC d && isC e with
   |false=>simp
   |true=>
    simp only[if_true,zio];by_cases hg:2048<=v/\(v<55296\/57343<v)
    .grind
    .grind
  have j:begins [c,d,e]=if isC d && isC e then(if 2048<=v/\(v<55296\/57343<v)then(v,3)else(0,0))else(0,0):=by
   rw[zcx,f,if_neg (by simp),zb8];cases b:isC d with
   |false=>rfl
   |true=>
    rw[if_pos rfl,zb8];cases he:isC e with
    |false=>rfl
    |true=>
     have hd2:128<=d.toNat/\d.toNat<=191:=by simpa[isC]using b
     have he2:128<=e.toNat/\e.toNat<=191:=by simpa[isC]using he
     have m:64*(64*(c.toNat-224)+(d.toNat-128))+(e.toNat-128)=v:=by omega
     have l:v<=65535:=by omega
     simp only[if_true,goOn,List.length_nil,List.length_cons,Nat.zero_add,Nat.sub_self,widen,m,Bool.and_self];by_cases hg:2048<=v/\(v<55296\/57343<v)
     .grind
     .grind
  rw[t]at a;unfold Agree;rw[k,a,j];cases b:isC d && isC e with
  |false=>simp
  |true=>
   grind
theorem zmx (c:UInt8) (r:Str) (h:240<=c.toNat/\c.toNat<248):Agree (c::r):=by
 have g:=ztj _ h;have b:=zdn c r 4 (by omega) (by rw[g]) (.inl (by omega)) (by omega);have t:(c.toNat /32==6)=false:=by simp;omega
 have p:(c.toNat /16==14)=false:=by simp;omega
 have s:(c.toNat /8==30)=true:=by simp;omega
 have a:r.length<3->Agree (c::r):=by
  intro hl;have l:dec (c::r)=(65533,1):=by
   unfold dec;simp only[List.getD_cons_zero,List.length_cons];rw[if_neg (by omega),t,p,s];have x:decide (3<r.length+1)=false:=by simp;omega
   rw[x];simp
  exact .inl ⟨by rw[l],by rw[l],by rw[b,if_neg (by omega)]⟩
 match r,b,a with
 | [],_,a=>exact a (by simp)
 | [_],_,a=>exact a (by simp)
 | [_,_],_,a=>exact a (by simp)
 |d::e::f::q,b,_=>
  have w:begins ((c::d::e::f::q).take 4)=begins [c,d,e,f]:=rfl;obtain⟨v,u⟩:∃v,v=c.toNat%8*262144+d.toNat%64*4096+e.toNat%64*64+f.toNat%64:=⟨_,rfl⟩
  have n:dec (c::d::e::f::q)=if isC d && isC e && isC f then(if 65536<=v/\v<=1114111 then(v,4)else(65533,1))else(65533,1):=by
   unfold dec;simp only[List.getD_cons_zero,List.getD_cons_succ,List.length_cons];rw[if_neg (by omega),t,p,s,zd0,zd0,zd0,<-u];have j:decide (1<q.length+1+1+1+1)=true:=by simp
   have i:decide (2<q.length+1+1+1+1)=true:=by simp
   have k:decide (3<q.length+1+1+1+1)=true:=by simp
   rw[j,i,k];simp only[Bool.false_and,Bool.true_and,Bool.false_eq_true,if_false];cases hdd:isC d && isC e && isC f with
   |false=>simp
   |true=>
    simp only[if_true,zio];by_cases hg:65536<=v/\v<=1114111
    .grind
    .grind
  have m:begins [c,d,e,f]=if isC d && isC e && isC f then(if 65536<=v/\v<=1114111 then(v,4)else(0,0))else(0,0):=by
   rw[zcx,g,if_neg (by simp),zb8];cases l:isC d with
   |false=>rfl
   |true=>
    rw[if_pos rfl,zb8];cases he:isC e with
    |false=>rfl
    |true=>
     rw[if_pos rfl,zb8];cases hf:isC f with
     |false=>rfl
     |true=>
      have hd2:128<=d.toNat/\d.toNat<=191:=by simpa[isC]using l
      have he2:128<=e.toNat/\e.toNat<=191:=by simpa[isC]using he
      have hf2:128<=f.toNat/\f.toNat<=191:=by simpa[isC]using hf
      have o:64*(64*(64*(c.toNat-240)+(d.toNat-128))+(e.toNat-128))+(f.toNat-128)=v:=by omega
      simp only[if_true,goOn,List.length_nil,List.length_cons,Nat.zero_add,Nat.sub_self,widen,o,Bool.and_self];by_cases hg:65536<=v/\v<=1114111
      .grind
      .grind
  rw[w]at b;unfold Agree;rw[n,b,m];cases l:isC d && isC e && isC f with
  |false=>simp
  |true=>
   grind
theorem agree (s:Str) (h:s≠[]):Agree s:=by
 cases s with
 |nil=>exact absurd rfl h
 |cons c r=>
  have hlt:c.toNat<256:=c.toNat_lt;by_cases h1:c.toNat<128
  .exact zqn c r h1
  .by_cases h2:c.toNat<192\/248<=c.toNat
   .exact zmw c r (by omega) h2
   .by_cases h3:c.toNat<224
    .exact zqo c r (by omega)
    .by_cases h4:c.toNat<240
     .exact zj2 c r (by omega)
     .exact zmx c r (by omega)
end Utf
end Go.Proofs.YtpjmhafmeieloabGreatDoor
namespace Go.Proofs.YtpjmhafmeieloabGreatDoor
namespace Utf
end Utf
end Go.Proofs.YtpjmhafmeieloabGreatDoor

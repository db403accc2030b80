import Derived.Test.YtpjmhafmeieloaaGreatDoorZ05
import Derived.Test.YtpjmhafmeieloaaGreatDoorZ15
import Derived.Test.YtpjmhafmeieloaaGreatDoorZ16
namespace Go.Proofs.YtpjmhafmeieloaaGreatDoor
open _root_.Go.Proofs.Tryz
open Go.RowKit
def jcells (m:List Int):Array Value:=(m.map (fun(x:Int)=>Value.int .i64 x)).toArray
theorem zf7 (m:List Int) (i:Nat) (x:Int):(jcells m).setIfInBounds i (.int .i64 x)=jcells (m.set i x):=by
 simp[jcells,List.map_set]
theorem zb3 {m:List Int} {i:Nat} (h:i<m.length):(jcells m)[i]? =some (.int .i64 (m.getD i (-1))):=by
 simp[jcells,List.getD_eq_getElem?_getD,h]
structure TL where
 bN:Nat
 bI:Nat
 bL:Nat
 bS:Nat
 bO:Nat
 bV:Nat
 bG:Nat
 bZ:Nat
 bC:Nat
 rI:Nat
 rL:Nat
 rC:Nat
 rO:Nat
def TL.args (y:TL) (v:Value):Array Value:=#[v,.pointer (some ⟨y.bN,0,none⟩),.pointer (some ⟨y.bI,0,none⟩),.pointer (some ⟨y.bL,0,none⟩),.pointer (some ⟨y.bS,0,none⟩),.pointer (some ⟨y.bO,0,none⟩),.pointer (some ⟨y.bV,0,none⟩),.pointer (some ⟨y.bG,0,none⟩),.pointer (some ⟨y.bZ,0,none⟩),.pointer (some ⟨y.bC,0,none⟩)]
def TL.fn (y:TL):Value:=.func (.func 59) #[] #[.pointer (some ⟨y.bN,0,none⟩),.pointer (some ⟨y.bI,0,none⟩),.pointer (some ⟨y.bL,0,none⟩),.pointer (some ⟨y.bS,0,none⟩),.pointer (some ⟨y.bO,0,none⟩),.pointer (some ⟨y.bV,0,none⟩),.pointer (some ⟨y.bG,0,none⟩),.pointer (some ⟨y.bZ,0,none⟩),.pointer (some ⟨y.bC,0,none⟩)]
structure TLok (y:TL) (B D:Nat):Prop where
 nI:y.bN≠y.rI
 nL:y.bN≠y.rL
 nC:y.bN≠y.rC
 iL:y.rI≠y.rL
 iC:y.rI≠y.rC
 lC:y.rL≠y.rC
 sI:y.bS≠y.bI
 sL:y.bS≠y.bL
 sC:y.bS≠y.bC
 sZ:y.bS≠y.bZ
 zI:y.bZ≠y.bI
 zL:y.bZ≠y.bL
 zC:y.bZ≠y.bC
 dN:y.bN<D
 dI:y.rI<D
 dL:y.rL<D
 dC:y.rC<D
 dO:y.rO<D
 dS:y.bS<D
 dZ:y.bZ<D
 lo:B<=y.bN/\B<=y.rI/\B<=y.rL/\B<=y.rC/\B<=y.rO/\B<=y.bS/\B<=y.bZ/\B<=D
structure TAt (y:TL) (B D:Nat) (A:Option Addr) (c:Nat) (root:Int) (vs:List NV) (ns:List Gr.Nd) (w:World) (s:Gr.TS) (sv zv:Value):Prop where
 ok:TLok y B D
 hd:D<=w.heap.size
 xI:Blk w y.bI 34 #[.slice (some ⟨y.rI,0,none⟩) ns.length ns.length]
 xL:Blk w y.bL 34 #[.slice (some ⟨y.rL,0,none⟩) ns.length ns.length]
 xC:Blk w y.bC 34 #[.slice (some ⟨y.rC,0,none⟩) ns.length ns.length]
 xO:Blk w y.bO 52 #[.slice (some ⟨y.rO,0,none⟩) ns.length ns.length]
 xV:Blk w y.bV 67 #[y.fn]
 xG:Blk w y.bG 24 #[.slice A ns.length c,.int .i64 root]
 at_:GAt w B A vs ns
 bN:Blk w y.bN 3 #[.int .i64 (s.next:Int)]
 bS:Blk w y.bS 34 #[sv]
 bZ:Blk w y.bZ 34 #[zv]
 rI:Blk w y.rI 3 (icells s.idx)
 rL:Blk w y.rL 3 (icells s.low)
 rC:Blk w y.rC 3 (jcells s.inn)
 rO:Blk w y.rO 4 (bcells s.on)
 stk:OwnRow intL w D 3 sv s.stk
 siz:OwnRow intL w D 3 zv s.sizes
 apart:∀k,sv.ownBlock=some k->zv.ownBlock≠some k
section
variable {y:TL} {B D:Nat} {A:Option Addr} {c:Nat} {root:Int} {vs:List NV} {ns:List Gr.Nd} {w w':World} {s:Gr.TS} {sv zv:Value}
theorem TAt.svD (h:TAt y B D A c root vs ns w s sv zv) {k:Nat} (hk:k<D):sv.ownBlock≠some k:=fun e=>by have:=(h.stk.lt k e).1;omega
theorem TAt.zvD (h:TAt y B D A c root vs ns w s sv zv) {k:Nat} (hk:k<D):zv.ownBlock≠some k:=fun e=>by have:=(h.siz.lt k e).1;omega
theorem TAt.later (h:TAt y B D A c root vs ns w s sv zv) (hb:Below w.heap.size w w'):TAt y B D A c root vs ns w' s sv zv:=
 ⟨h.ok,Nat.le_trans h.hd hb.size,h.xI.below hb h.xI.lt,h.xL.below hb h.xL.lt,h.xC.below hb h.xC.lt,h.xO.below hb h.xO.lt,h.xV.below hb h.xV.lt,h.xG.below hb h.xG.lt,h.at_.below (hb.mono (Nat.le_trans h.ok.lo.2.2.2.2.2.2.2 h.hd)),
  h.bN.below hb h.bN.lt,h.bS.below hb h.bS.lt,h.bZ.below hb h.bZ.lt,h.rI.below hb h.rI.lt,h.rL.below hb h.rL.lt,h.rC.below hb h.rC.lt,h.rO.below hb h.rO.lt,h.stk.later hb,h.siz.later hb,h.apart⟩
theorem TAt.alloc (h:TAt y B D A c root vs ns w s sv zv) (o:Obj):TAt y B D A c root vs ns (w.alloc o) s sv zv:=h.later ((Below.refl _ _).alloc (Nat.le_refl _) o)
theorem TAt.drewN (h:TAt y B D A c root vs ns w s sv zv) (n:Nat):TAt y B D A c root vs ns (w.drewN n) s sv zv:=h.later (below_drewN (Below.refl _ _) n)
theorem TAt.drew (h:TAt y B D A c root vs ns w s sv zv):TAt y B D A c root vs ns w.drew s sv zv:=h.drewN 1
theorem TAt.setN (h:TAt y B D A c root vs ns w s sv zv) (x:Nat):TAt y B D A c root vs ns (w.setCell ⟨y.bN,0,none⟩ (.int .i64 (x:Int))) {s with next:=x} sv zv:=
 ⟨h.ok,by simp[World.setCell];exact h.hd,(h.xI.far (p:=⟨y.bN,0,none⟩) (h.xI.ne_ h.bN (by decide)) _),(h.xL.far (p:=⟨y.bN,0,none⟩) (h.xL.ne_ h.bN (by decide)) _),(h.xC.far (p:=⟨y.bN,0,none⟩) (h.xC.ne_ h.bN (by decide)) _),(h.xO.far (p:=⟨y.bN,0,none⟩) (h.xO.ne_ h.bN (by decide)) _),(h.xV.far (p:=⟨y.bN,0,none⟩) (h.xV.ne_ h.bN (by decide)) _),(h.xG.far (p:=⟨y.bN,0,none⟩) (h.xG.ne_ h.bN (by decide)) _),(h.at_.below ((Below.refl _ w).setCell (p:=⟨y.bN,0,none⟩) h.ok.lo.1 _)),(h.bN.set_ 0 _),(h.bS.far (p:=⟨y.bN,0,none⟩) (h.bS.ne_ h.bN (by decide)) _),(h.bZ.far (p:=⟨y.bN,0,none⟩) (h.bZ.ne_ h.bN (by decide)) _),(h.rI.far (p:=⟨y.bN,0,none⟩) h.ok.nI.symm _),(h.rL.far (p:=⟨y.bN,0,none⟩) h.ok.nL.symm _),(h.rC.far (p:=⟨y.bN,0,none⟩) h.ok.nC.symm _),(h.rO.far (p:=⟨y.bN,0,none⟩) (h.rO.ne_ h.bN (by decide)) _),(h.stk.setCell (p:=⟨y.bN,0,none⟩) (h.svD h.ok.dN) _),(h.siz.setCell (p:=⟨y.bN,0,none⟩) (h.zvD h.ok.dN) _),h.apart⟩
theorem TAt.setI (h:TAt y B D A c root vs ns w s sv zv) (v x:Nat):TAt y B D A c root vs ns (w.setCell ⟨y.rI,v,none⟩ (.int .i64 (x:Int))) {s with idx:=s.idx.set v x} sv zv:=
 ⟨h.ok,by simp[World.setCell];exact h.hd,(h.xI.far (p:=⟨y.rI,v,none⟩) (h.xI.ne_ h.rI (by decide)) _),(h.xL.far (p:=⟨y.rI,v,none⟩) (h.xL.ne_ h.rI (by decide)) _),(h.xC.far (p:=⟨y.rI,v,none⟩) (h.xC.ne_ h.rI (by decide)) _),(h.xO.far (p:=⟨y.rI,v,none⟩) (h.xO.ne_ h.rI (by decide)) _),(h.xV.far (p:=⟨y.rI,v,none⟩) (h.xV.ne_ h.rI (by decide)) _),(h.xG.far (p:=⟨y.rI,v,none⟩) (h.xG.ne_ h.rI (by decide)) _),(h.at_.below ((Below.refl _ w).setCell (p:=⟨y.rI,v,none⟩) h.ok.lo.2.1 _)),(h.bN.far (p:=⟨y.rI,v,none⟩) h.ok.nI _),(h.bS.far (p:=⟨y.rI,v,none⟩) (h.bS.ne_ h.rI (by decide)) _),(h.bZ.far (p:=⟨y.rI,v,none⟩) (h.bZ.ne_ h.rI (by decide)) _),(by have:=h.rI.set_ v (.int .i64 (x:Int));rw[zaw]at this;exact this),(h.rL.far (p:=⟨y.rI,v,none⟩) h.ok.iL.symm _),(h.rC.far (p:=⟨y.rI,v,none⟩) h.ok.iC.symm _),(h.rO.far (p:=⟨y.rI,v,none⟩) (h.rO.ne_ h.rI (by decide)) _),(h.stk.setCell (p:=⟨y.rI,v,none⟩) (h.svD h.ok.dI) _),(h.siz.setCell (p:=⟨y.rI,v,none⟩) (h.zvD h.ok.dI) _),h.apart⟩
theorem TAt.setL (h:TAt y B D A c root vs ns w s sv zv) (v x:Nat):TAt y B D A c root vs ns (w.setCell ⟨y.rL,v,none⟩ (.int .i64 (x:Int))) {s with low:=s.low.set v x} sv zv:=
 ⟨h.ok,by simp[World.setCell];exact h.hd,(h.xI.far (p:=⟨y.rL,v,none⟩) (h.xI.ne_ h.rL (by decide)) _),(h.xL.far (p:=⟨y.rL,v,none⟩) (h.xL.ne_ h.rL (by decide)) _),(h.xC.far (p:=⟨y.rL,v,none⟩) (h.xC.ne_ h.rL (by decide)) _),(h.xO.far (p:=⟨y.rL,v,none⟩) (h.xO.ne_ h.rL (by decide)) _),(h.xV.far (p:=⟨y.rL,v,none⟩) (h.xV.ne_ h.rL (by decide)) _),(h.xG.far (p:=⟨y.rL,v,none⟩) (h.xG.ne_ h.rL (by decide)) _),(h.at_.below ((Below.refl _ w).setCell (p:=⟨y.rL,v,none⟩) h.ok.lo.2.2.1 _)),(h.bN.far (p:=⟨y.rL,v,none⟩) h.ok.nL _),(h.bS.far (p:=⟨y.rL,v,none⟩) (h.bS.ne_ h.rL (by decide)) _),(h.bZ.far (p:=⟨y.rL,v,none⟩) (h.bZ.ne_ h.rL (by decide)) _),(h.rI.far (p:=⟨y.rL,v,none⟩) h.ok.iL _),(by have:=h.rL.set_ v (.int .i64 (x:Int));rw[zaw]at this;exact this),(h.rC.far (p:=⟨y.rL,v,none⟩) h.ok.lC.symm _),(h.rO.far (p:=⟨y.rL,v,none⟩) (h.rO.ne_ h.rL (by decide)) _),(h.stk.setCell (p:=⟨y.rL,v,none⟩) (h.svD h.ok.dL) _),(h.siz.setCell (p:=⟨y.rL,v,none⟩) (h.zvD h.ok.dL) _),h.apart⟩
theorem TAt.setC (h:TAt y B D A c root vs ns w s sv zv) (v:Nat) (x:Int):TAt y B D A c root vs ns (w.setCell ⟨y.rC,v,none⟩ (.int .i64 x)) {s with inn:=s.inn.set v x} sv zv:=
 ⟨h.ok,by simp[World.setCell];exact h.hd,(h.xI.far (p:=⟨y.rC,v,none⟩) (h.xI.ne_ h.rC (by decide)) _),(h.xL.far (p:=⟨y.rC,v,none⟩) (h.xL.ne_ h.rC (by decide)) _),(h.xC.far (p:=⟨y.rC,v,none⟩) (h.xC.ne_ h.rC (by decide)) _),(h.xO.far (p:=⟨y.rC,v,none⟩) (h.xO.ne_ h.rC (by decide)) _),(h.xV.far (p:=⟨y.rC,v,none⟩) (h.xV.ne_ h.rC (by decide)) _),(h.xG.far (p:=⟨y.rC,v,none⟩) (h.xG.ne_ h.rC (by decide)) _),(h.at_.below ((Below.refl _ w).setCell (p:=⟨y.rC,v,none⟩) h.ok.lo.2.2.2.1 _)),(h.bN.far (p:=⟨y.rC,v,none⟩) h.ok.nC _),(h.bS.far (p:=⟨y.rC,v,none⟩) (h.bS.ne_ h.rC (by decide)) _),(h.bZ.far (p:=⟨y.rC,v,none⟩) (h.bZ.ne_ h.rC (by decide)) _),(h.rI.far (p:=⟨y.rC,v,none⟩) h.ok.iC _),(h.rL.far (p:=⟨y.rC,v,none⟩) h.ok.lC _),(by have:=h.rC.set_ v (.int .i64 x);rw[zf7]at this;exact this),(h.rO.far (p:=⟨y.rC,v,none⟩) (h.rO.ne_ h.rC (by decide)) _),(h.stk.setCell (p:=⟨y.rC,v,none⟩) (h.svD h.ok.dC) _),(h.siz.setCell (p:=⟨y.rC,v,none⟩) (h.zvD h.ok.dC) _),h.apart⟩
theorem TAt.setO (h:TAt y B D A c root vs ns w s sv zv) (v:Nat) (b:Bool):TAt y B D A c root vs ns (w.setCell ⟨y.rO,v,none⟩ (.bool b)) {s with on:=s.on.set v b} sv zv:=
 ⟨h.ok,by simp[World.setCell];exact h.hd,(h.xI.far (p:=⟨y.rO,v,none⟩) (h.xI.ne_ h.rO (by decide)) _),(h.xL.far (p:=⟨y.rO,v,none⟩) (h.xL.ne_ h.rO (by decide)) _),(h.xC.far (p:=⟨y.rO,v,none⟩) (h.xC.ne_ h.rO (by decide)) _),(h.xO.far (p:=⟨y.rO,v,none⟩) (h.xO.ne_ h.rO (by decide)) _),(h.xV.far (p:=⟨y.rO,v,none⟩) (h.xV.ne_ h.rO (by decide)) _),(h.xG.far (p:=⟨y.rO,v,none⟩) (h.xG.ne_ h.rO (by decide)) _),(h.at_.below ((Below.refl _ w).setCell (p:=⟨y.rO,v,none⟩) h.ok.lo.2.2.2.2.1 _)),(h.bN.far (p:=⟨y.rO,v,none⟩) (h.bN.ne_ h.rO (by decide)) _),(h.bS.far (p:=⟨y.rO,v,none⟩) (h.bS.ne_ h.rO (by decide)) _),(h.bZ.far (p:=⟨y.rO,v,none⟩) (h.bZ.ne_ h.rO (by decide)) _),(h.rI.far (p:=⟨y.rO,v,none⟩) (h.rI.ne_ h.rO (by decide)) _),(h.rL.far (p:=⟨y.rO,v,none⟩) (h.rL.ne_ h.rO (by decide)) _),(h.rC.far (p:=⟨y.rO,v,none⟩) (h.rC.ne_ h.rO (by decide)) _),(by have:=h.rO.set_ v (.bool b);rw[zbz]at this;exact this),(h.stk.setCell (p:=⟨y.rO,v,none⟩) (h.svD h.ok.dO) _),(h.siz.setCell (p:=⟨y.rO,v,none⟩) (h.zvD h.ok.dO) _),h.apart⟩
theorem TAt.setS (h:TAt y B D A c root vs ns w s sv zv) {sv2:Value} {l:List Nat} (ho:OwnRow intL w D 3 sv2 l) (hap:∀k,sv2.ownBlock=some k->zv.ownBlock≠some k):TAt y B D A c root vs ns (w.setCell ⟨y.bS,0,none⟩ sv2) {s with stk:=l} sv2 zv:=
 ⟨h.ok,by simp[World.setCell];exact h.hd,(h.xI.far (p:=⟨y.bS,0,none⟩) h.ok.sI.symm _),(h.xL.far (p:=⟨y.bS,0,none⟩) h.ok.sL.symm _),(h.xC.far (p:=⟨y.bS,0,none⟩) h.ok.sC.symm _),(h.xO.far (p:=⟨y.bS,0,none⟩) (h.xO.ne_ h.bS (by decide)) _),(h.xV.far (p:=⟨y.bS,0,none⟩) (h.xV.ne_ h.bS (by decide)) _),(h.xG.far (p:=⟨y.bS,0,none⟩) (h.xG.ne_ h.bS (by decide)) _),(h.at_.below ((Below.refl _ w).setCell (p:=⟨y.bS,0,none⟩) h.ok.lo.2.2.2.2.2.1 _)),(h.bN.far (p:=⟨y.bS,0,none⟩) (h.bN.ne_ h.bS (by decide)) _),(h.bS.set_ 0 _),(h.bZ.far (p:=⟨y.bS,0,none⟩) h.ok.sZ.symm _),(h.rI.far (p:=⟨y.bS,0,none⟩) (h.rI.ne_ h.bS (by decide)) _),(h.rL.far (p:=⟨y.bS,0,none⟩) (h.rL.ne_ h.bS (by decide)) _),(h.rC.far (p:=⟨y.bS,0,none⟩) (h.rC.ne_ h.bS (by decide)) _),(h.rO.far (p:=⟨y.bS,0,none⟩) (h.rO.ne_ h.bS (by decide)) _),(ho.setCell (p:=⟨y.bS,0,none⟩) (fun e=>absurd (show D<=y.bS from(ho.lt _ e).1) (by have:=h.ok.dS;omega)) _),(h.siz.setCell (p:=⟨y.bS,0,none⟩) (h.zvD h.ok.dS) _),hap⟩
theorem zsg (g n c m:Nat) (hm:m<=c) (w:World):(Instr.slice 34 (.slice (some ⟨g,0,none⟩) n c) none (some (.int .i64 (m:Int))) none).run prog w=.ok (.slice (some ⟨g,0,none⟩) m c) w:=by
 obtain⟨b,a,_,_,_⟩:=info_parts infoInt;rw[run_slice_h (P:=prog) 34 3 b underlying34 a (some ⟨g,0,none⟩) n c m hm w];split<;>simp[Addr.add]
theorem OwnRow.shape {α:Type} {L:Lay α} {w:World} {base:Nat} {E:TypeId} {v:Value} {l:List α} (h:OwnRow L w base E v l) (hl:l≠[]):∃g cap,v=.slice (some ⟨g,0,none⟩) l.length cap/\l.length<=cap:=by
 rcases h.2 with⟨_,hn⟩|⟨g,cap,cur,b,hbg,hh,a,hm,hcs,htk⟩
 .grind
 .exact⟨g,cap,b,a⟩
theorem OwnRow.drop1 {α:Type} {L:Lay α} {w:World} {base:Nat} {E:TypeId} {g cap n:Nat} {l:List α} {x:α} (h:OwnRow L w base E (.slice (some ⟨g,0,none⟩) n cap) (l++[x])):OwnRow L w base E (.slice (some ⟨g,0,none⟩) l.length cap) l:=by
 rcases h.2 with⟨e,_⟩|⟨g',cap',a,e,f,j,k,m,i,b⟩
 .cases e
 .injection e with e1 e2 e3
  injection e1 with e1
  injection e1 with e1
  subst e1;subst e3;rw[List.length_append,List.length_cons,List.length_nil]at k b;refine⟨L.all_len l,.inr ⟨g,cap,a,rfl,f,j,by omega,m,i,?_⟩⟩;have d:(a.toList.take ((l.length+(0+1))*L.sz)).take (l.length*L.sz)=(L.all (l++[x])).take (l.length*L.sz):=by rw[b]
  rw[List.take_take,L.all_append]at d;rw[show min (l.length*L.sz) ((l.length+(0+1))*L.sz)=l.length*L.sz from by rw[Nat.add_mul];omega]at d;rw[d,List.take_append_of_le_length (by rw[L.all_len];exact Nat.le_refl _),List.take_of_length_le (by rw[L.all_len];exact Nat.le_refl _)]
theorem OwnRow.off {α:Type} {L:Lay α} {w w2:World} {base:Nat} {E:TypeId} {v:Value} {l:List α} {row:Option Nat} (h:OwnRow L w base E v l) (hg:w.grownBy w2 row) (hne:∀k,v.ownBlock=some k->some k≠row):OwnRow L w2 base E v l:=by
 have f:=h.lt;refine⟨h.1,h.2.imp id ?_⟩;rintro⟨g,a,d,i,b,j,r⟩;have e:v.ownBlock=some g:=by rw[i];rfl
 exact⟨g,a,d,i,b,(hg.block g (f g e).2 (hne g e)).trans j,r⟩
theorem TAt.grownS (h:TAt y B D A c root vs ns w s sv zv) {w2:World} {sv2:Value} {l:List Nat} (ho:OwnRow intL w2 D 3 sv2 l) (hg:w.grownBy w2 sv.ownBlock) (hat:sv2.ownBlock=sv.ownBlock\/sv2.ownBlock=some w.heap.size):
 TAt y B D A c root vs ns (w2.setCell ⟨y.bS,0,none⟩ sv2) {s with stk:=l} sv2 zv:=by
 have i:∀{g:Nat} {t:TypeId} {cs:Array Value},Blk w g t cs->g<D->Blk w2 g t cs:=fun d m=>d.grown hg (fun e=>h.svD m e.symm)
 have a:∀{g:Nat} {t:TypeId} {cs:Array Value},Blk w g t cs->3≠t->Blk w2 g t cs:=fun d m=>d.grown hg (fun e=>zbx h.stk d m e.symm)
 have b:Below D w w2:=h.stk.grown_below hg h.hd;have q:OwnRow intL w2 D 3 zv s.sizes:=h.siz.off hg (fun k e f=>h.apart k f.symm e);have o:TAt y B D A c root vs ns w2 {s with stk:=s.stk} sv2 zv\/True:=.inr trivial;clear o;have n:∀k,sv2.ownBlock=some k->zv.ownBlock≠some k:=fun k e f=>by
  rcases hat with h1|h1
  .exact h.apart k (h1.symm.trans e) f
  .have:=(h.siz.lt k f).2;rw[h1]at e;injection e with e
   omega
 have j:=hg.size;exact⟨h.ok,by simp[World.setCell];exact Nat.le_trans h.hd j,((a h.xI (by decide)).far (p:=⟨y.bS,0,none⟩) h.ok.sI.symm _),((a h.xL (by decide)).far (p:=⟨y.bS,0,none⟩) h.ok.sL.symm _),((a h.xC (by decide)).far (p:=⟨y.bS,0,none⟩) h.ok.sC.symm _),((a h.xO (by decide)).far (p:=⟨y.bS,0,none⟩) (h.xO.ne_ h.bS (by decide)) _),((a h.xV (by decide)).far (p:=⟨y.bS,0,none⟩) (h.xV.ne_ h.bS (by decide)) _),((a h.xG (by decide)).far (p:=⟨y.bS,0,none⟩) (h.xG.ne_ h.bS (by decide)) _),(h.at_.below (b.mono h.ok.lo.2.2.2.2.2.2.2)).below ((Below.refl _ w2).setCell (p:=⟨y.bS,0,none⟩) h.ok.lo.2.2.2.2.2.1 _),((i h.bN h.ok.dN).far (p:=⟨y.bS,0,none⟩) (h.bN.ne_ h.bS (by decide)) _),((a h.bS (by decide)).set_ 0 _),((a h.bZ (by decide)).far (p:=⟨y.bS,0,none⟩) h.ok.sZ.symm _),((i h.rI h.ok.dI).far (p:=⟨y.bS,0,none⟩) (h.rI.ne_ h.bS (by decide)) _),((i h.rL h.ok.dL).far (p:=⟨y.bS,0,none⟩) (h.rL.ne_ h.bS (by decide)) _),((i h.rC h.ok.dC).far (p:=⟨y.bS,0,none⟩) (h.rC.ne_ h.bS (by decide)) _),((a h.rO (by decide)).far (p:=⟨y.bS,0,none⟩) (h.rO.ne_ h.bS (by decide)) _),
  (ho.setCell (p:=⟨y.bS,0,none⟩) (fun e=>absurd (show D<=y.bS from(ho.lt _ e).1) (by have:=h.ok.dS;omega)) _),(q.setCell (p:=⟨y.bS,0,none⟩) (h.zvD h.ok.dS) _),n⟩
theorem TAt.grownZ (h:TAt y B D A c root vs ns w s sv zv) {w2:World} {zv2:Value} {l:List Nat} (ho:OwnRow intL w2 D 3 zv2 l) (hg:w.grownBy w2 zv.ownBlock) (hat:zv2.ownBlock=zv.ownBlock\/zv2.ownBlock=some w.heap.size):
 TAt y B D A c root vs ns (w2.setCell ⟨y.bZ,0,none⟩ zv2) {s with sizes:=l} sv zv2:=by
 have i:∀{g:Nat} {t:TypeId} {cs:Array Value},Blk w g t cs->g<D->Blk w2 g t cs:=fun f m=>f.grown hg (fun e=>h.zvD m e.symm)
 have a:∀{g:Nat} {t:TypeId} {cs:Array Value},Blk w g t cs->3≠t->Blk w2 g t cs:=fun f m=>f.grown hg (fun e=>zbx h.siz f m e.symm)
 have d:Below D w w2:=h.siz.grown_below hg h.hd;have o:OwnRow intL w2 D 3 sv s.stk:=h.stk.off hg (fun k e b=>h.apart k e b.symm);have n:∀k,sv.ownBlock=some k->zv2.ownBlock≠some k:=fun k e b=>by
  rcases hat with h1|h1
  .exact h.apart k e (h1.symm.trans b)
  .have:=(h.stk.lt k e).2;rw[h1]at b;injection b with b
   omega
 have j:=hg.size;exact⟨h.ok,by simp[World.setCell];exact Nat.le_trans h.hd j,((a h.xI (by decide)).far (p:=⟨y.bZ,0,none⟩) h.ok.zI.symm _),((a h.xL (by decide)).far (p:=⟨y.bZ,0,none⟩) h.ok.zL.symm _),((a h.xC (by decide)).far (p:=⟨y.bZ,0,none⟩) h.ok.zC.symm _),((a h.xO (by decide)).far (p:=⟨y.bZ,0,none⟩) (h.xO.ne_ h.bZ (by decide)) _),((a h.xV (by decide)).far (p:=⟨y.bZ,0,none⟩) (h.xV.ne_ h.bZ (by decide)) _),((a h.xG (by decide)).far (p:=⟨y.bZ,0,none⟩) (h.xG.ne_ h.bZ (by decide)) _),(h.at_.below (d.mono h.ok.lo.2.2.2.2.2.2.2)).below ((Below.refl _ w2).setCell (p:=⟨y.bZ,0,none⟩) h.ok.lo.2.2.2.2.2.2.1 _),((i h.bN h.ok.dN).far (p:=⟨y.bZ,0,none⟩) (h.bN.ne_ h.bZ (by decide)) _),((a h.bS (by decide)).far (p:=⟨y.bZ,0,none⟩) h.ok.sZ _),((a h.bZ (by decide)).set_ 0 _),((i h.rI h.ok.dI).far (p:=⟨y.bZ,0,none⟩) (h.rI.ne_ h.bZ (by decide)) _),((i h.rL h.ok.dL).far (p:=⟨y.bZ,0,none⟩) (h.rL.ne_ h.bZ (by decide)) _),((i h.rC h.ok.dC).far (p:=⟨y.bZ,0,none⟩) (h.rC.ne_ h.bZ (by decide)) _),((a h.rO (by decide)).far (p:=⟨y.bZ,0,none⟩) (h.rO.ne_ h.bZ (by decide)) _),
  (o.setCell (p:=⟨y.bZ,0,none⟩) (h.svD h.ok.dZ) _),(ho.setCell (p:=⟨y.bZ,0,none⟩) (fun e=>absurd (show D<=y.bZ from(ho.lt _ e).1) (by have:=h.ok.dZ;omega)) _),n⟩
end
open _root_.Go.Lib (hid)
set_option maxRecDepth 100000
set_option maxHeartbeats 16000000
structure TF (y:TL) (sv zv:Value) (w w':World) (sv' zv':Value):Prop where
 os:w'.os=w.os
 tape:w'.tape=w.tape
 output:w'.output=w.output
 size:w.heap.size<=w'.heap.size
 block:∀k,k<w.heap.size->k≠y.bN->k≠y.rI->k≠y.rL->k≠y.rC->k≠y.rO->k≠y.bS->k≠y.bZ->sv.ownBlock≠some k->zv.ownBlock≠some k->w'.heap[k]? =w.heap[k]?
 fs:∀k,sv'.ownBlock=some k->sv.ownBlock=some k\/w.heap.size<=k
 fz:∀k,zv'.ownBlock=some k->zv.ownBlock=some k\/w.heap.size<=k
section
variable {y:TL} {sv zv sv' zv' sv2 zv2:Value} {w w' w2:World}
theorem TF.refl (y:TL) (sv zv:Value) (w:World):TF y sv zv w w sv zv:=⟨rfl,rfl,rfl,Nat.le_refl _,fun _ _ _ _ _ _ _ _ _ _ _=>rfl,fun _ h=>.inl h,fun _ h=>.inl h⟩
theorem TF.trans (h:TF y sv zv w w' sv' zv') (h2:TF y sv' zv' w' w2 sv2 zv2):TF y sv zv w w2 sv2 zv2:=by
 refine⟨h2.os.trans h.os,h2.tape.trans h.tape,h2.output.trans h.output,Nat.le_trans h.size h2.size,?_,?_,?_⟩
 .intro k a m g f d n l i j b;refine(h2.block k (Nat.lt_of_lt_of_le a h.size) m g f d n l i (fun e=>?_) (fun e=>?_)).trans (h.block k a m g f d n l i j b)
  .rcases h.fs k e with h3|h3
   .exact j h3
   .omega
  .rcases h.fz k e with h3|h3
   .exact b h3
   .omega
 .intro k e;rcases h2.fs k e with h3|h3
  .exact h.fs k h3
  .exact .inr (Nat.le_trans h.size h3)
 .intro k e;rcases h2.fz k e with h3|h3
  .exact h.fz k h3
  .exact .inr (Nat.le_trans h.size h3)
theorem TF.of_below (hb:Below w.heap.size w w'):TF y sv zv w w' sv zv:=⟨hb.os,hb.tape,hb.output,hb.size,fun k a _ _ _ _ _ _ _ _ _=>hb.block k a,fun _ h=>.inl h,fun _ h=>.inl h⟩
theorem TF.alloc (h:TF y sv zv w w' sv' zv') (o:Obj):TF y sv zv w (w'.alloc o) sv' zv':=h.trans (TF.of_below ((Below.refl _ _).alloc (Nat.le_refl _) o))
theorem TF.drewN (h:TF y sv zv w w' sv' zv') (n:Nat):TF y sv zv w (w'.drewN n) sv' zv':=h.trans (TF.of_below (below_drewN (Below.refl _ _) n))
theorem TF.drew (h:TF y sv zv w w' sv' zv'):TF y sv zv w w'.drew sv' zv':=h.drewN 1
theorem TF.set (h:TF y sv zv w w' sv' zv') (g i:Nat) (hg:g=y.bN\/g=y.rI\/g=y.rL\/g=y.rC\/g=y.rO\/g=y.bS\/g=y.bZ) (u:Value):TF y sv zv w (w'.setCell ⟨g,i,none⟩ u) sv' zv':=by
 refine h.trans ⟨rfl,rfl,rfl,by simp[World.setCell],?_,fun _ h=>.inl h,fun _ h=>.inl h⟩;intro k _ a1 a2 a3 a4 a5 a6 a7 _ _;refine Below.heap_setCell _ _ _ _ ?_;show k≠g;rcases hg with rfl|rfl|rfl|rfl|rfl|rfl|rfl<;>assumption
theorem TF.blk (h:TF y sv zv w w' sv' zv') {k:Nat} {t:TypeId} {cs:Array Value} (hb:Blk w k t cs) (a1:k≠y.bN) (a2:k≠y.rI) (a3:k≠y.rL) (a4:k≠y.rC) (a5:k≠y.rO) (a6:k≠y.bS) (a7:k≠y.bZ) (a8:sv.ownBlock≠some k) (a9:zv.ownBlock≠some k):Blk w' k t cs:=
 (h.block k hb.lt a1 a2 a3 a4 a5 a6 a7 a8 a9).trans hb
end
theorem TF.grownS {B D:Nat} {A:Option Addr} {c:Nat} {root:Int} {vs:List NV} {ns:List Gr.Nd} {s:Gr.TS} {y:TL} {sv zv sv2:Value} {w w2:World} (_h:TAt y B D A c root vs ns w s sv zv) (hg:w.grownBy w2 sv.ownBlock) (hat:sv2.ownBlock=sv.ownBlock\/sv2.ownBlock=some w.heap.size):
 TF y sv zv w (w2.setCell ⟨y.bS,0,none⟩ sv2) sv2 zv:=by
 have a:Below 0 w w2:=(Below.refl 0 w).grown hg (Nat.zero_le _) (fun _ _=>Nat.zero_le _);have h1:TF y sv zv w w2 sv2 zv:=⟨a.os,a.tape,a.output,a.size,fun k d _ _ _ _ _ _ _ b _=>hg.block k d (fun e=>b e.symm),fun k e=>by
  rcases hat with h1|h1
  .exact .inl (h1.symm.trans e)
  .right;rw[h1]at e;injection e with e;omega,fun _ e=>.inl e⟩
 exact h1.set y.bS 0 (by simp) _
theorem TF.grownZ {B D:Nat} {A:Option Addr} {c:Nat} {root:Int} {vs:List NV} {ns:List Gr.Nd} {s:Gr.TS} {y:TL} {sv zv zv2:Value} {w w2:World} (_h:TAt y B D A c root vs ns w s sv zv) (hg:w.grownBy w2 zv.ownBlock) (hat:zv2.ownBlock=zv.ownBlock\/zv2.ownBlock=some w.heap.size):
 TF y sv zv w (w2.setCell ⟨y.bZ,0,none⟩ zv2) sv zv2:=by
 have a:Below 0 w w2:=(Below.refl 0 w).grown hg (Nat.zero_le _) (fun _ _=>Nat.zero_le _);have h1:TF y sv zv w w2 sv zv2:=⟨a.os,a.tape,a.output,a.size,fun k b _ _ _ _ _ _ _ _ d=>hg.block k b (fun e=>d e.symm),fun _ e=>.inl e,fun k e=>by
  rcases hat with h1|h1
  .exact .inl (h1.symm.trans e)
  .right;rw[h1]at e;injection e with e;omega⟩
 exact h1.set y.bZ 0 (by simp) _
structure ABox (y:TL) (D:Nat) (w:World) (sv zv:Value) (bA v:Nat):Prop where
 b:Blk w bA 3 #[.int .i64 (v:Int)]
 hi:D<=bA
 s:sv.ownBlock≠some bA
 z:zv.ownBlock≠some bA
theorem ABox.kept {y:TL} {B D:Nat} {w w':World} {sv zv sv' zv':Value} {bA v:Nat} (h:ABox y D w sv zv bA v) (ok:TLok y B D) (hf:TF y sv zv w w' sv' zv'):ABox y D w' sv' zv' bA v:=by
 have hhi:=h.hi;have hlt:=h.b.lt;have:=ok.dN;have:=ok.dI;have:=ok.dL;have:=ok.dC;have:=ok.dO;have:=ok.dS;have:=ok.dZ;refine⟨hf.blk h.b (by omega) (by omega) (by omega) (by omega) (by omega) (by omega) (by omega) h.s h.z,h.hi,fun e=>?_,fun e=>?_⟩
 .rcases hf.fs _ e with h1|h1
  .exact h.s h1
  .omega
 .rcases hf.fz _ e with h1|h1
  .exact h.z h1
  .omega
def TPost (y:TL) (B D:Nat) (A:Option Addr) (c:Nat) (root:Int) (vs:List NV) (ns:List Gr.Nd) (w:World) (sv zv:Value) (s':Gr.TS) (e:Ending) (w':World):Prop:=
 e=.returned (.tuple #[])/\∃sv' zv',TAt y B D A c root vs ns w' s' sv' zv'/\TF y sv zv w w' sv' zv'
section
variable {y:TL} {B D:Nat} {A:Option Addr} {c:Nat} {root:Int} {vs:List NV} {ns:List Gr.Nd}
theorem zvm (w:World) (s:Gr.TS) (sv zv:Value) (bA v x:Nat) (h:TAt y B D A c root vs ns w s sv zv) (hA:ABox y D w sv zv bA v) (_hl:ns.length<=1073741823) (hv:v<ns.length) (hx:x<ns.length) (li:s.idx.length=ns.length) (ll:s.low.length=ns.length) (lo:s.on.length=ns.length)
 (hi:s.ix x≠0) (hon:s.onn x=true) (_hb1:s.lw v<=1073741824) (_hb2:s.ix x<=1073741824):
 Calls prog 60 #[.int .i64 x,.pointer (some ⟨y.bI,0,none⟩),.pointer (some ⟨y.bV,0,none⟩),.pointer (some ⟨y.bL,0,none⟩),.pointer (some ⟨bA,0,none⟩),.pointer (some ⟨y.bO,0,none⟩)] w (TPost y B D A c root vs ns w sv zv (s.lower v (s.ix x))):=by
 have i0:w.cell? ⟨y.bI,0,none⟩=some (.slice (some ⟨y.rI,0,none⟩) ns.length ns.length):=h.xI.cell 0;have l0:w.cell? ⟨y.bL,0,none⟩=some (.slice (some ⟨y.rL,0,none⟩) ns.length ns.length):=h.xL.cell 0;have o0:w.cell? ⟨y.bO,0,none⟩=some (.slice (some ⟨y.rO,0,none⟩) ns.length ns.length):=h.xO.cell 0;have a0:w.cell? ⟨bA,0,none⟩=some (.int .i64 (v:Int)):=hA.b.cell 0;obtain⟨p,a⟩:=ex (s.ix x)
 obtain⟨q,d⟩:=ex (s.lw v)
 have ix:w.cell? ⟨y.rI,x,none⟩=some (.int .i64 (p:Int)):=by rw[h.rI.cell,zad (by omega),<-a];rfl
 have lv:w.cell? ⟨y.rL,v,none⟩=some (.int .i64 (q:Int)):=by rw[h.rL.cell,zad (by omega),<-d];rfl
 have ox:w.cell? ⟨y.rO,x,none⟩=some (.bool true):=by rw[h.rO.cell,zah (by omega)];show some (Value.bool (s.onn x))=_;rw[hon]
 have lf:∀i,w.frozen? ⟨y.rL,i,none⟩=false:=h.rL.frozen;have hvI:(v:Int)<(ns.length:Int):=by omega
 have hxI:(x:Int)<(ns.length:Int):=by omega
 rw[a]at hi _hb2;rw[d]at _hb1;have e:¬((p:Int)=0):=by omega
 have hpb:((p:Int)==0)=false:=by simpa using e
 have f:Hid (s.lower v p={s with low:=s.low.set v (min q p)}):=hid (by unfold Gr.TS.lower;rw[d]);have H:=hid h;rw[a];clear h hA hon a d;go_enter func60,ntmps60;go_upto_region 4 with fail;go_region
 all_goals go_wp2_with fail
 all_goals
  go_end0;refine⟨rfl,sv,zv,?_,((TF.refl _ _ _ _).set y.rL v (by simp) _).drew⟩;rw[f.out]
  first
   | (rw[show min q p=q from by omega];exact(H.out.setL v q).drew)
   | (rw[show min (q:Int) (p:Int)=((min q p:Nat):Int)from by omega];exact(H.out.setL v (min q p)).drew)
   | (rw[show min q p=p from by omega];exact(H.out.setL v p).drew)
theorem zsh (w:World) (s:Gr.TS) (sv zv:Value) (bA x:Nat) (h:TAt y B D A c root vs ns w s sv zv) (_hl:ns.length<=1073741823) (hx:x<ns.length) (li:s.idx.length=ns.length) (lo:s.on.length=ns.length)
 (hi:s.ix x≠0) (hon:s.onn x=false) (_hb2:s.ix x<=1073741824):
 Calls prog 60 #[.int .i64 x,.pointer (some ⟨y.bI,0,none⟩),.pointer (some ⟨y.bV,0,none⟩),.pointer (some ⟨y.bL,0,none⟩),.pointer (some ⟨bA,0,none⟩),.pointer (some ⟨y.bO,0,none⟩)] w (TPost y B D A c root vs ns w sv zv s):=by
 have i0:w.cell? ⟨y.bI,0,none⟩=some (.slice (some ⟨y.rI,0,none⟩) ns.length ns.length):=h.xI.cell 0;have o0:w.cell? ⟨y.bO,0,none⟩=some (.slice (some ⟨y.rO,0,none⟩) ns.length ns.length):=h.xO.cell 0;obtain⟨p,b⟩:=ex (s.ix x)
 have ix:w.cell? ⟨y.rI,x,none⟩=some (.int .i64 (p:Int)):=by rw[h.rI.cell,zad (by omega),<-b];rfl
 have ox:w.cell? ⟨y.rO,x,none⟩=some (.bool false):=by rw[h.rO.cell,zah (by omega)];show some (Value.bool (s.onn x))=_;rw[hon]
 have hxI:(x:Int)<(ns.length:Int):=by omega
 rw[b]at hi _hb2;have a:¬((p:Int)=0):=by omega
 have hpb:((p:Int)==0)=false:=by simpa using a
 have H:=hid h;clear h hon b;go_enter func60,ntmps60;go_wp2_with fail;go_end0;exact⟨rfl,sv,zv,H.out,TF.refl _ _ _ _⟩
theorem zsi (w:World) (s s2:Gr.TS) (sv zv:Value) (bA v x:Nat) (h:TAt y B D A c root vs ns w s sv zv) (hA:ABox y D w sv zv bA v) (_hl:ns.length<=1073741823) (hv:v<ns.length) (hx:x<ns.length) (li:s.idx.length=ns.length) (ll:s2.low.length=ns.length)
 (hi:s.ix x=0) (_hb1:s2.lw v<=1073741824) (_hb2:s2.lw x<=1073741824) (hcall:Calls prog 59 (y.args (.int .i64 x)) w (TPost y B D A c root vs ns w sv zv s2)):
 Calls prog 60 #[.int .i64 x,.pointer (some ⟨y.bI,0,none⟩),.pointer (some ⟨y.bV,0,none⟩),.pointer (some ⟨y.bL,0,none⟩),.pointer (some ⟨bA,0,none⟩),.pointer (some ⟨y.bO,0,none⟩)] w (TPost y B D A c root vs ns w sv zv (s2.lower v (s2.lw x))):=by
 have r:w.cell? ⟨y.bI,0,none⟩=some (.slice (some ⟨y.rI,0,none⟩) ns.length ns.length):=h.xI.cell 0;have m:w.cell? ⟨y.bV,0,none⟩=some y.fn:=h.xV.cell 0;have ix:w.cell? ⟨y.rI,x,none⟩=some (.int .i64 0):=by rw[h.rI.cell,zad (by omega)];show some (Value.int .i64 ((s.ix x:Nat):Int))=_;rw[hi];rfl
 have hvI:(v:Int)<(ns.length:Int):=by omega
 have hxI:(x:Int)<(ns.length:Int):=by omega
 have n:=hid hcall;have z:=hid hA;obtain⟨p,j⟩:=ex (s2.lw x)
 obtain⟨q,g⟩:=ex (s2.lw v)
 have t:=hid j;have o:=hid g;have u:Hid (s2.lower v p={s2 with low:=s2.low.set v (min q p)}):=hid (by unfold Gr.TS.lower;rw[g]);have l:=hid h.ok;rw[j]at _hb2 ⊢;rw[g]at _hb1;unfold TL.fn at m;unfold TL.args at n;clear h hA hcall j g;go_enter func60,ntmps60;go_wp2_with fail;refine n.out.mono ?_;rintro e w2 ⟨rfl,sv2,zv2,d,a⟩;have f:=z.out.kept l.out a;have l0:w2.cell? ⟨y.bL,0,none⟩=some (.slice (some ⟨y.rL,0,none⟩) ns.length ns.length):=d.xL.cell 0;have a0:w2.cell? ⟨bA,0,none⟩=some (.int .i64 (v:Int)):=f.b.cell 0;have lx:w2.cell? ⟨y.rL,x,none⟩=some (.int .i64 (p:Int)):=by rw[d.rL.cell,zad (by omega),<-t.out];rfl
 have lv:w2.cell? ⟨y.rL,v,none⟩=some (.int .i64 (q:Int)):=by rw[d.rL.cell,zad (by omega),<-o.out];rfl
 have lf:∀i,w2.frozen? ⟨y.rL,i,none⟩=false:=d.rL.frozen;have H:=hid d;have k:=hid a;clear r m ix d a f;go_upto_region 2 with fail;go_region
 all_goals go_wp2_with fail
 all_goals
  go_end0;refine⟨rfl,sv2,zv2,?_,(k.out.set y.rL v (by simp) _).drew⟩;rw[u.out]
  first
   | (rw[show min q p=q from by omega];exact(H.out.setL v q).drew)
   | (rw[show min (q:Int) (p:Int)=((min q p:Nat):Int)from by omega];exact(H.out.setL v (min q p)).drew)
   | (rw[show min q p=p from by omega];exact(H.out.setL v p).drew)
end
open Gr
theorem znf (x:Gr.Dn) (A:Option Addr) (c:Nat) (hl:x.d.length<=1073741823) (w:World):
 Calls prog 115 #[.agg #[.bool x.neg,.slice A x.d.length c,.int .i64 x.e]] w fun e w'=>e=.returned (.int .i64 (lim x:Nat))/\Below w.heap.size w w':=by
 obtain⟨neg,d,e⟩:=x;simp only at hl ⊢;have g:Below w.heap.size w (w.alloc (.cells #[.bool neg,.slice A d.length c,.int .i64 e] 131)):=(Below.refl _ _).alloc (Nat.le_refl _) _;have b:=hid g;clear g;by_cases h1:400<d.length
 .have a:Hid (lim ⟨neg,d,e⟩=6):=hid (by unfold lim;rw[if_pos h1]);have f:(400:Int)<(d.length:Int):=by omega
  go_enter func115,ntmps115;go_wp2;go_ret;rw[a.out];exact⟨rfl,b.out⟩
 .have f:¬(400:Int)<(d.length:Int):=by omega
  by_cases h2:2000<e
  .have a:Hid (lim ⟨neg,d,e⟩=2):=hid (by unfold lim;rw[if_neg h1,if_pos (.inr h2)]);go_enter func115,ntmps115;go_wp2;go_ret;rw[a.out];exact⟨rfl,b.out⟩
  .by_cases h3:e< -2000
   .have a:Hid (lim ⟨neg,d,e⟩=2):=hid (by unfold lim;rw[if_neg h1,if_pos (.inl h3)]);go_enter func115,ntmps115;go_wp2;go_ret;rw[a.out];exact⟨rfl,b.out⟩
   .have a:Hid (lim ⟨neg,d,e⟩=0):=hid (by unfold lim;rw[if_neg h1,if_neg (fun h=>h.elim h3 h2)]);go_enter func115,ntmps115;go_wp2;go_ret;rw[a.out];exact⟨rfl,b.out⟩
theorem zq8 (neg:Bool) (A:Option Addr) (n c:Nat) (e:Int) (w:World):
 Calls prog 174 #[.agg #[.bool neg,.slice A n c,.int .i64 e]] w fun e' w'=>e'=.returned (.string ⟨(signS neg).toArray⟩)/\Below w.heap.size w w':=by
 have a:Below w.heap.size w (w.alloc (.cells #[.bool neg,.slice A n c,.int .i64 e] 131)):=(Below.refl _ _).alloc (Nat.le_refl _) _;have b:=hid a;clear a;cases neg
 all_goals
  go_enter func174,ntmps174;go_wp2;go_ret;exact⟨rfl,b.out⟩
theorem zto (A:Option Addr) (d:List Nat) (c:Nat) (hl:d.length<=1073741823) (hd:∀v∈d,v<10) (w:World) (h:RowAt intL w w.heap.size A d):
 Calls prog 175 #[.slice A d.length c] w fun e' w'=>e'=.returned (.string ⟨(d.map Gr.ch).toArray⟩)/\Below w.heap.size w w':=by
 have B:=hid hd;have m:=hid h;clear hd h;go_enter func175,ntmps175;go_wp2_with fail;go_loopw [3,4] (fun s3 s4 wr=>∃k:Nat,k<=d.length/\s3=.string ⟨((d.take k).map Gr.ch).toArray⟩/\s4=.int .i64 k/\Hid (Below w.heap.size w wr)) (fun _ s4 _=>d.length-(intOf s4).toNat)
 case atStart=>exact⟨0,by omega,rfl,rfl,hid (Below.refl _ _)⟩
 case round=>
  obtain⟨k,hk,rfl,rfl,n⟩:=hrel;by_cases hlt:k<d.length
  .have j:(k:Int)<(d.length:Int):=by omega
   obtain⟨v,o⟩:=ex (d[k])
   have b:v<10:=by rw[<-o];exact B.out _ (List.getElem_mem hlt)
   obtain⟨ad,rfl,_,z⟩:=zae (m.out.below n.out) hlt;rw[o]at z;have q:=hid (fun W=>zdg v (by omega) W);rw[Lib.decDigits_one b,show[UInt8.ofNat (48+v)]=[Gr.ch v]from rfl]at q;have l:((d.take k).map Gr.ch).length=k:=by simp;omega
   have f:=fun W=>zac ((d.take k).map Gr.ch) [Gr.ch v] (by rw[l];simp;omega) W
   have a:Hid ((d.take (k+1)).map Gr.ch=(d.take k).map Gr.ch++[Gr.ch v]):=hid (by
    rw[List.take_succ_eq_append_getElem hlt,List.map_append,o];rfl)
   obtain⟨r,u⟩:=ex ((d.take k).map Gr.ch)
   obtain⟨r2,g⟩:=ex ((d.take (k+1)).map Gr.ch)
   obtain⟨x,t⟩:∃x:Gr.Str,[Gr.ch v]=x:=⟨_,rfl⟩
   rw[u]at f a ⊢;rw[g]at a;rw[t]at f a q;have p:=hid g;clear o b l u g t;go_wp2_with fail;refine(q.out _).mono ?_;rintro e C ⟨rfl,i⟩;have s:Hid (Below w.heap.size w C):=hid (n.out.trans (i.mono n.out.size));clear i;go_wp2;go_roundw
   case rel=>exact⟨k+1,by omega,by rw[p.out,a.out],by go_num,s⟩
   case measure=>simp[intOf];omega
  .have j:¬(k:Int)<(d.length:Int):=by omega
   have y:Hid ((d.map Gr.ch).take k=d.map Gr.ch):=hid (List.take_of_length_le (by simp;omega));go_wp2;go_ret;rw[y.out];exact⟨rfl,n.out⟩
theorem zq9 (x:Gr.Dn) (A:Option Addr) (c:Nat) (hl:x.d.length<=1073741823) (hd:∀v∈x.d,v<10) (w:World) (h:RowAt intL w w.heap.size A x.d):
 Calls prog 148 #[.agg #[.bool x.neg,.slice A x.d.length c,.int .i64 x.e]] w fun e' w'=>e'=.returned (.string ⟨(coef x).toArray⟩)/\Below w.heap.size w w':=by
 obtain⟨neg,d,E⟩:=x;simp only at hl hd h ⊢;have i:=hid h;have z:=hid hd;clear h hd;obtain⟨r,s⟩:=ex (coef ⟨neg,d,E⟩)
 have u:=hid s;rw[s];clear s;go_enter func148,ntmps148;go_upto_region 1 with fail;obtain⟨b,j⟩:=ex (w.alloc (.cells #[.bool neg,.slice A d.length c,.int .i64 E] 131))
 obtain⟨f,g⟩:=ex w.heap.size
 have a:Hid (Blk b f 131 #[.bool neg,.slice A d.length c,.int .i64 E]/\Below f w b/\b.heap.size=f+1):=hid (by rw[<-j,<-g];exact⟨Blk.new _ _ _,(Below.refl _ _).alloc (Nat.le_refl _) _,by simp⟩);have k:=hid g;rw[g]at i;(try rw[j]);(try rw[g]);clear j g;have y:b.cell? ⟨f,1,none⟩=some (.slice A d.length c):=a.out.1.cell 1;by_cases h0:d=[]
 .subst h0;have q:Hid (r=[48]):=hid (by rw[<-u.out];rfl);go_wp2;go_ret;rw[q.out,k.out];exact⟨rfl,a.out.2.1⟩
 .have hlp:=List.length_pos_iff.2 h0;have h1:¬((d.length:Int)=0):=by omega
  have h1b:((d.length:Int)==0)=false:=by simpa using h0
  have q:Hid (r=signS neg++d.map Gr.ch):=hid (by rw[<-u.out];unfold coef;rw[if_neg h0];rfl);go_upto_region 3 with fail;clear y;have m:b.heap.size=f+1:=a.out.2.2;have t:Hid (∀W:WB b.heap.size b,Calls prog 174 #[.agg #[.bool neg,.slice A d.length c,.int .i64 E]] W.w (fun e l=>e=.returned (.string ⟨(signS neg).toArray⟩)/\Below b.heap.size b l)/\Calls prog 175 #[.slice A d.length c] W.w (fun e l=>e=.returned (.string ⟨(d.map Gr.ch).toArray⟩)/\Below b.heap.size b l)):=hid (fun W=>⟨(zq8 neg A d.length c E W.w).mono (fun _ _ ⟨o,n⟩=>⟨o,W.h.trans (n.mono W.h.size)⟩),(zto A d c hl z.out W.w (((i.out.below a.out.2.1).below (W.h.mono (by omega))).more (by have:=W.h.size;omega))).mono (fun _ _ ⟨o,n⟩=>⟨o,W.h.trans (n.mono W.h.size)⟩)⟩);have p0:∀W:WB b.heap.size b,W.w.cell? ⟨f,0,none⟩=some (.bool neg):=fun W=>(W.h.cell (p:=⟨f,0,none⟩) (by simp;omega)).trans (a.out.1.cell 0)
  have p1:∀W:WB b.heap.size b,W.w.cell? ⟨f,1,none⟩=some (.slice A d.length c):=fun W=>(W.h.cell (p:=⟨f,1,none⟩) (by simp;omega)).trans (a.out.1.cell 1)
  have p2:∀W:WB b.heap.size b,W.w.cell? ⟨f,2,none⟩=some (.int .i64 E):=fun W=>(W.h.cell (p:=⟨f,2,none⟩) (by simp;omega)).trans (a.out.1.cell 2)
  clear m;have hadd:=fun W=>zac (signS neg) (d.map Gr.ch) (by have:=zdo neg;rw[List.length_map];omega) W
  refine zaa b.heap.size b (by kernel_rfl) (by kernel_rfl) (Below.refl _ _) ?_
  repeat (go_big_quiet_step ((first| (with_reducible refine Calls.grow (t.out _).1)| (with_reducible refine Calls.grow (t.out _).2))))
  refine wpQuiet_nil ?_;rintro _ ⟨B,rfl⟩;go_wp2;go_ret;rw[q.out,k.out];exact⟨rfl,a.out.2.1.trans (B.h.mono (by have:=a.out.2.2;omega))⟩
theorem zra (x:Gr.Dn) (A:Option Addr) (c:Nat) (hl:x.d.length<=1073741823) (hd:∀v∈x.d,v<10) (h0:-4611686018427387904<=x.e) (h1:x.e<=4611686018427387904) (w:World) (h:RowAt intL w w.heap.size A x.d):
 Calls prog 116 #[.agg #[.bool x.neg,.slice A x.d.length c,.int .i64 x.e]] w fun e' w'=>e'=.returned (.string ⟨(Gr.text x).toArray⟩)/\Below w.heap.size w w':=by
 have k:=hid (fun(W:World) (hW:RowAt intL W W.heap.size A x.d)=>zq9 x A c hl hd W hW);have z:(coef x).length<=1073741825:=by
  unfold coef;split
  .simp
  .have:=zdo x.neg;unfold signS at this;rw[List.length_append,List.length_map];omega
 have n:=zhc x.e (by omega) (by omega);obtain⟨r,o⟩:=ex (coef x)
 obtain⟨G,l⟩:=ex (Gr.text x)
 have C:Hid (G=r++101::Lib.itoa x.e):=hid (by rw[<-l,<-o];rfl);rw[o]at k z;rw[l];clear o l;obtain⟨neg,d,E⟩:=x;simp only at hl h0 h1 h k n C ⊢;obtain⟨t,F⟩:=ex (Lib.itoa E)
 have m:=hid (fun(W:World)=>zj9 E h0 h1 W);rw[F]at n C m;clear F;have i:=hid h;clear h hd;go_enter func116,ntmps116;go_upto_region 1 with fail;obtain⟨a,j⟩:=ex (w.alloc (.cells #[.bool neg,.slice A d.length c,.int .i64 E] 131))
 obtain⟨g,f⟩:=ex w.heap.size
 have b:Hid (Blk a g 131 #[.bool neg,.slice A d.length c,.int .i64 E]/\Below g w a/\a.heap.size=g+1):=hid (by rw[<-j,<-f];exact⟨Blk.new _ _ _,(Below.refl _ _).alloc (Nat.le_refl _) _,by simp⟩);have y:=hid f;rw[f]at i;(try rw[j]);(try rw[f]);clear j f;have s:a.heap.size=g+1:=b.out.2.2;have D:Hid (∀W:WB a.heap.size a,Calls prog 148 #[.agg #[.bool neg,.slice A d.length c,.int .i64 E]] W.w (fun e q=>e=.returned (.string ⟨r.toArray⟩)/\Below a.heap.size a q)/\Calls prog 149 #[.int .i64 E] W.w (fun e q=>e=.returned (.string ⟨t.toArray⟩)/\Below a.heap.size a q)):=hid (fun W=>⟨(k.out W.w (((i.out.below b.out.2.1).below (W.h.mono (by omega))).more (by have:=W.h.size;omega))).mono (fun _ _ ⟨B,u⟩=>⟨B,W.h.trans (u.mono W.h.size)⟩),(m.out W.w).mono (fun _ _ ⟨B,u⟩=>⟨B,W.h.trans (u.mono W.h.size)⟩)⟩);have p0:∀W:WB a.heap.size a,W.w.cell? ⟨g,0,none⟩=some (.bool neg):=fun W=>(W.h.cell (p:=⟨g,0,none⟩) (by simp;omega)).trans (b.out.1.cell 0)
 have p1:∀W:WB a.heap.size a,W.w.cell? ⟨g,1,none⟩=some (.slice A d.length c):=fun W=>(W.h.cell (p:=⟨g,1,none⟩) (by simp;omega)).trans (b.out.1.cell 1)
 have p2:∀W:WB a.heap.size a,W.w.cell? ⟨g,2,none⟩=some (.int .i64 E):=fun W=>(W.h.cell (p:=⟨g,2,none⟩) (by simp;omega)).trans (b.out.1.cell 2)
 have hadd:=fun W=>zac r [101] (by simp;omega) W
 have hadd2:=fun W=>zac (r++[101]) t (by simp;omega) W
 clear s;refine zaa a.heap.size a (by kernel_rfl) (by kernel_rfl) (Below.refl _ _) ?_
 repeat (go_big_quiet_step ((first| (with_reducible refine Calls.grow (D.out _).1)| (with_reducible refine Calls.grow (D.out _).2))))
 refine wpQuiet_nil ?_;rintro _ ⟨H,rfl⟩;go_wp2;go_ret;rw[C.out,y.out];exact⟨rfl,b.out.2.1.trans (H.h.mono (by have:=b.out.2.2;omega))⟩
open Go.RowKit Go.Sort
theorem tz64_core (x k idx:Nat) (w:World) (hx0:((x:Int)==0)=false)
 (key:IntKind.u64.wrap (bits BinOp.and IntKind.u64 (x:Int) (IntKind.u64.wrap (-(x:Int)))*285870213051353865) /288230376151711744=(idx:Int))
 (hi:idx<64) (hk:k<64) (hcell:w.cell? ⟨6,idx,none⟩=some (.int .u8 k)):
 Calls prog 138 #[.int .u64 x] w fun e w'=>e=.returned (.int .i64 k)/\w'=w:=by
 go_enter func138,ntmps138;go_wp2_with (simp only[key]);go_ret;exact⟨rfl,rfl⟩
theorem zs3 (x:Nat) (hx0:x≠0) (hx:x<18446744073709551616) (w:World) (hT:UT w):
 Calls prog 138 #[.int .u64 x] w fun e w'=>e=.returned (.int .i64 (Lib.ctz 64 x))/\w'=w:=by
 obtain⟨b,d⟩:=Lib.lowest_bit 64 x hx0 hx;obtain⟨f,c⟩:=Lib.deBruijn64_at _ d;have a:=hT.bru _ f;rw[c]at a;exact tz64_core x _ _ w (by simp;omega) (tz64_key x _ hx hx0 b) f d a
open Flt in
theorem zp9 (m L:Nat) (e:Int) (h:Flt.Fits m L e) (f:Nat) (hf:fw m L e=f) (w:World) (hT:UT w):Calls prog 107 #[.float .f64 f] w fun r w'=>r=.returned (.tuple #[.int .u64 (m:Int),.int .i64 e])/\w=w':=by
 have j:=h.fw_lt.2;obtain⟨z,hz,d,_,a⟩:=h.fields;have b:=h.sig_bd;have i:m*2 ^ z<9007199254740992:=by rw[<-d];exact b.2.1
 have g:0<m*2 ^ z:=by rw[<-d];exact b.1
 have l:m<9007199254740992:=by have:=h.hi;have h2:=zfk (L+1) h.len;omega
 rw[hf]at a j;have A:=hid (fun W=>zg7 f (by omega) W);have c1:=fun W=>zcn f W
 have x:=zsx f (by omega);have c:=hid (zs3 (m*2 ^ z) (by omega) (by omega) w hT);rw[zx7 m z h.odd (by omega)]at c;obtain⟨M,p⟩:=ex (m*2 ^ z)
 have hdiv:(M:Int) /2 ^ z=(m:Int):=by rw[<-p];push_cast;exact Int.mul_ediv_cancel _ (by have:=Int.pow_pos (n:=2) (m:=z) (by omega);omega)
 rw[p]at c a i g;have hz0:(0:Int)<=(z:Int):=by omega
 have hz1:(z:Int)<=52:=by omega
 have hzn:((z:Int)).toNat=z:=by omega
 rcases a with⟨u,o,q⟩|⟨k,u,C,o,q⟩
 .have B:(f:Int) /4503599627370496=0:=by omega
  have s:=hid q;rw[o]at x;clear h b hf hT d p u o q j i g l;go_enter func107,ntmps107;go_wp2_with fail;refine(A.out _).mono ?_;rintro _ t ⟨rfl,rfl⟩;go_wp2_with fail;refine c.out.mono ?_;rintro _ t ⟨rfl,rfl⟩;go_wp2;go_ret2;refine⟨?_,rfl⟩;rw[s.out];rfl
 .have B:(f:Int) /4503599627370496=(k:Int)+1:=by omega
  have i3:IntKind.i64.wrap ((k:Int)+1)=(k:Int)+1:=IntWalk.i64_in _ (by omega);have i5:((k:Int)+1==0)=false:=by simp;omega
  have v:=or_one (f%4503599627370496) (by omega);rw[o]at v;obtain⟨Q,y⟩:=ex (f%4503599627370496)
  rw[y]at x v;have s:Hid (e=(k:Int)+1-1075+z):=hid (by omega);have hk0:(0:Int)<=(k:Int):=by omega
  have hk1:(k:Int)<=2045:=by omega
  clear h b hf hT d p u o q j i g l y C;go_enter func107,ntmps107;go_wp2_with fail;refine(A.out _).mono ?_;rintro _ t ⟨rfl,rfl⟩;go_wp2_with fail;refine c.out.mono ?_;rintro _ t ⟨rfl,rfl⟩;go_wp2;go_ret2;refine⟨?_,rfl⟩;rw[s.out];rfl
theorem zyc (u:Nat) (hu64:u<18446744073709551616) (w:World) (hT:UT w):
 Calls prog 139 #[.int .u64 u,.int .i64 10] w fun e w'=>e=.returned (.string ⟨(Lib.decDigits u).toArray⟩)/\Below w.heap.size w w':=by
 by_cases hs:u<100
 .have r:(u:Int)<100:=by omega
  have hw:IntKind.i64.wrap (u:Int)=(u:Int):=IntWalk.i64_in _ (by omega);have v:=hid (fun W=>internal_strconv_small u hs W);go_enter func139,ntmps139;go_wp2_with fail;refine(v.out _).mono ?_;rintro e s ⟨rfl,rfl⟩;go_wp2;go_ret;exact⟨rfl,Below.refl _ _⟩
 .have r:¬(u:Int)<100:=by omega
  have d:1<=u:=by omega
  have hnd20:Lib.nDigits u<=20:=by have:=Lib.numDigits_eq u d hu64;split at this<;>omega
  have i:prog.arrayLen 202=24:=by kernel_rfl
  have g:prog.underlying 202=some (.array 24 5):=underlying202;have hsl1:∀W,(Instr.sliceAt 202 (.pointer (some ⟨w.heap.size,0,none⟩)) none (some (.int .i64 (Lib.nDigits u:Int))) none).run prog W=.ok (.slice (some ⟨w.heap.size,0,none⟩) (Lib.nDigits u) 24) W:=fun W=>by
   rw[run_sliceAt_array_h W 202 ⟨w.heap.size,0,none⟩ (by simp[Program.arrayLen,Program.elem,g]) .i64 (Lib.nDigits u:Int) (by omega) (by rw[i];omega)];go_simp
  have c:=Lib.holds_zero0 w 202 (Lib.nDigits u) (by omega);have a:=internal_strconv_formatBase10 w.heap.size 0 24 u (Array.replicate (Lib.nDigits u) 0) (w.alloc (.cells Lib.zeros24 202)) c (by rw[Array.size_replicate];exact Lib.lt_pow_nDigits u) hu64 (by rw[Array.size_replicate];omega);rw[Array.size_replicate]at a;have x:=hid a;have p:=hid c;have o:=hid (fun W (hW:UT W)=>internal_strconv_numDigits u d hu64 W hW.pow);have m:Hid (UT (w.alloc (.cells Lib.zeros24 202))):=hid (UT.stays _ _ hT ((Below.refl _ _).alloc (Nat.le_refl _) _));clear c a i g hT hs d;go_enter func139,ntmps139;go_wp2_with fail;refine(o.out _ m.out).mono ?_;rintro e s ⟨rfl,rfl⟩;go_wp2_with fail;refine x.out.mono ?_;rintro e s ⟨rfl,k,v',f,rfl,l⟩;have hcv:(convert 78 9 (.slice (some ⟨w.heap.size,0,none⟩) (Lib.nDigits u) 24)).run prog ((putRow (fun(b:UInt8)=>Value.int .u8 (b.toNat:Int)) (w.alloc (.cells Lib.zeros24 202)) w.heap.size 0 f).drewN k)=.ok (.string ⟨(Lib.decDigits u).toArray⟩) ((putRow (fun(b:UInt8)=>Value.int .u8 (b.toNat:Int)) (w.alloc (.cells Lib.zeros24 202)) w.heap.size 0 f).drewN k):=by
   have h:=run_convert_bytes_back (P:=prog) ((putRow (fun(b:UInt8)=>Value.int .u8 (b.toNat:Int)) (w.alloc (.cells Lib.zeros24 202)) w.heap.size 0 f).drewN k) 78 9 5 ⟨w.heap.size,0,none⟩ 24 (Lib.decDigits u) underlying78 underlying5 underlying9 (fun j n=>by
    rw[Lib.row_is_numeral l j n,Lib.add_plain,World.cell?_drewN];exact cell?_putRow (fun(b:UInt8)=>Value.int .u8 (b.toNat:Int)) _ w.heap.size 0 _ f p.out (by rw[l.size,Array.size_replicate]) j (by rw[l.size];rw[Lib.decDigits_length]at n;exact n))
   rw[Lib.decDigits_length]at h;exact h
  obtain⟨os,t⟩:=Lib.fin_at w (.cells Lib.zeros24 202) f k 0;have q:=hid t;clear l t;go_wp2;go_ret;refine⟨rfl,?_⟩;rw[q.out];exact Lib.below_grow _ _ (Nat.le_refl _) _ _
theorem zwc (u:Nat) (hu64:u<18446744073709551616) (w:World) (hT:UT w):
 Calls prog 108 #[.int .u64 u,.int .i64 10] w fun e w'=>e=.returned (.string ⟨(Lib.decDigits u).toArray⟩)/\Below w.heap.size w w':=by
 have b:=hid (zyc u hu64 w hT);clear hT;go_enter func108,ntmps108;go_wp2_with fail;refine b.out.mono ?_;rintro e w1 ⟨rfl,a⟩;have c:=hid a;clear a;go_wp2;go_ret;exact⟨rfl,c.out⟩
open Flt in
theorem zqa (m L:Nat) (e:Int) (h:Flt.Fits m L e) (f:Nat) (hf:fw m L e=f) (w:World) (hT:UT w):Calls prog 78 #[.float .f64 f] w fun r w'=>r=.returned (.string ⟨(Lib.decDigits m++112::Lib.itoa e).toArray⟩)/\Below w.heap.size w w':=by
 have hlt:=h.fw_lt.2;have G:=h.o_zero;have F:=h.o_self;have hmb:m<9007199254740992:=by have:=h.hi;have y:=zfk (L+1) h.len;omega
 have C:=hid (fun W=>zk9 f (by omega) (by rw[<-hf];exact h.o_max) W);have E:=hid (fun W=>zpz f (by omega) W);have t:=hid (fun W k=>zp9 m L e h f hf W k);have he0:=h.e0;have he1:=h.e1;have z:=hid (fun W k=>zwc m (by omega) W k);have j:=hid (fun W k=>zhb e (by omega) (by omega) W k);have B:(Lib.decDigits m).length<=20:=by
  have y:=congrArg List.length (Gr.zpc 20 m (by omega) (by omega));rw[List.length_append,List.length_replicate,Gr.za4]at y;omega
 have H:=zhc e (by omega) (by omega);obtain⟨D,s⟩:∃D:Gr.Str,Lib.decDigits m=D:=⟨_,rfl⟩
 obtain⟨I,p⟩:∃I:Gr.Str,Lib.itoa e=I:=⟨_,rfl⟩
 rw[s]at z B;rw[p]at j H;obtain⟨s1,b⟩:∃x:Gr.Str,[]++D=x:=⟨_,rfl⟩
 have Ls1:s1.length<=30:=by rw[<-b];simp;omega
 have n:=fun W=>zac [] D (by simp;omega) W
 rw[b]at n;obtain⟨s2,a⟩:∃x:Gr.Str,s1++[112]=x:=⟨_,rfl⟩
 have Ls2:s2.length<=40:=by rw[<-a];simp;omega
 have q:=fun W=>zac s1 [112] (by simp;omega) W
 rw[a]at q;obtain⟨s3,g⟩:∃x:Gr.Str,s2++I=x:=⟨_,rfl⟩
 have o:=fun W=>zac s2 I (by omega) W
 rw[g]at o;have A:Hid (D++112::I=s3):=hid (by rw[<-g,<-a,<-b];simp);have c:=hid hT;rw[hf]at G F;rw[s,p];clear h hf hT s p b a g;go_enter func78,ntmps78;go_wp2_with fail;refine(E.out _).mono ?_;rintro r v ⟨rfl,rfl⟩;go_wp2_with fail;refine(C.out _).mono ?_;rintro r v ⟨rfl,rfl⟩;go_wp2_with fail;refine(t.out _ c.out).mono ?_;rintro r v ⟨rfl,rfl⟩;go_wp2_with fail;refine(z.out _ c.out).mono ?_;rintro r w2 ⟨rfl,i⟩;have d:=hid i;clear i;go_wp2_with fail;refine(j.out _ (UT.stays _ _ c.out d.out)).mono ?_;rintro r w3 ⟨rfl,l⟩;have u:=hid (d.out.trans (l.mono d.out.size));clear l;go_wp2;go_ret;rw[A.out];exact⟨rfl,u.out⟩
theorem zcf (x n:Nat) (i j:Int) (hi:i=(x:Int)) (hj:j=(n:Int)) (hx:x<=999999999) (hn:n<=9) (w:World):
 Calls prog 184 #[.int .i64 i,.int .i64 j] w fun e w'=>e=.returned (.string ⟨(Gr.pd n x).toArray⟩)/\Below w.heap.size w w':=by
 subst hi;subst hj;go_enter func184,ntmps184;go_wp2_with fail;go_loopw [0,5,6] (fun s0 s5 s6 wr=>∃k y:Nat,k<=n/\y<=999999999/\s0=.int .i64 (y:Int)/\s5=.string ⟨(Gr.pd k x).toArray⟩/\s6=.int .i64 (k:Int)/\Hid (y=x /10 ^ k/\Below w.heap.size w wr)) (fun _ _ s6 _=>n-(intOf s6).toNat)
 case atStart=>exact⟨0,x,by omega,hx,rfl,rfl,rfl,Lib.hid ⟨by simp,Below.refl _ _⟩⟩
 case round=>
  obtain⟨k,y,hk,hy,rfl,rfl,rfl,h⟩:=hrel;have a:=Gr.za4 k x;by_cases hlt:k<n
  .have f:(k:Int)<(n:Int):=by omega
   obtain⟨c,m⟩:∃c:UInt8,c=Gr.ch (y%10):=⟨_,rfl⟩
   have g:(48:Int)+(y:Int)%10=(c.toNat:Int):=by rw[m];unfold Gr.ch;rw[UInt8.toNat_ofNat'];omega
   have b:Hid (Gr.pd (k+1) x=[c]++Gr.pd k x/\y /10=x /10 ^ (k+1)):=Lib.hid ⟨by rw[Gr.zso,<-h.out.1,<-m];rfl,by rw[h.out.1,Nat.div_div_eq_div_mul,Nat.pow_succ]⟩;have d:=fun W=>zac [c] (Gr.pd k x) (by rw[a];simp;omega) W
   have l:(convert 78 9 (.slice (some ⟨wr.heap.size,0,none⟩) 1 1)).run prog (wr.alloc (.cells #[.int .u8 (c.toNat:Int)] 5))=.ok (.string ⟨[c].toArray⟩) (wr.alloc (.cells #[.int .u8 (c.toNat:Int)] 5)):=zd3 (B:=wr.heap.size+1) (wr.alloc (.cells #[.int .u8 (c.toNat:Int)] 5)) [c] (some ⟨wr.heap.size,0,none⟩) 1 (RowAt.lit1 c _ rfl _ rfl);rw[<-g]at l;obtain⟨p,o⟩:=ex (Gr.pd k x)
   rw[o]at d b ⊢;have hy10:(0:Int)<=(y:Int)%10:=by omega
   have hy11:(y:Int)%10<=9:=by omega
   clear g a o m;go_wp2;go_roundw
   case rel=>exact⟨k+1,y /10,by omega,by omega,by exact congrArg (Value.int .i64) (by omega),by rw[b.out.1];rfl,by go_num,Lib.hid ⟨b.out.2,h.out.2.alloc h.out.2.size _⟩⟩
   case measure=>simp[intOf];omega
  .obtain rfl:k=n:=by omega
   have f:¬(k:Int)<(k:Int):=by omega
   clear a;go_wp2;go_ret;exact⟨rfl,h.out.2⟩
end Go.Proofs.YtpjmhafmeieloaaGreatDoor

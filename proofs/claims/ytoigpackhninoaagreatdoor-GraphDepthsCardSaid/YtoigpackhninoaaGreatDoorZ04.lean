import Derived.Test.YtoigpackhninoaaGreatDoorZ03
namespace Go.Proofs.YtoigpackhninoaaGreatDoor
open Gr
open _root_.Go.Proofs.Tryz
open Lib (hid)
set_option maxRecDepth 100000
set_option maxHeartbeats 16000000
open Go.RowKit
def ScalOk (T:World->Prop) (kind:Int) (text:Gr.Str) (r:Bool):Prop:=∀w,T w->Calls prog 42 #[.int .i64 kind,.string ⟨text.toArray⟩] w fun e w'=>e=.returned (.bool r)/\Below w.heap.size w w'
theorem zg2 (t:Gr.Str):((⟨t.toArray⟩:ByteArray)==⟨#[]⟩)=t.isEmpty:=by
 show(t.toArray==#[])=_;cases t with
 |nil=>rfl
 |cons a l=>simp
theorem zsf (T:World->Prop) (hT:Stays T) (sclr:Int->Gr.Str->Bool) (kind:Int) (text:Gr.Str) (ord:Bool) (keys items:List Nat) (ka ia:Option Addr) (kc ic:Nat) (htl:text.length<=1073741823)
 (hkl:keys.length<=1073741823) (hil:items.length<=1073741823)
 (hsc:kind≠9->kind≠10->kind≠11->ord=false->keys=[]->items=[]->ScalOk T kind text (sclr kind text)) (w:World) (hTw:T w):
 Calls prog 35 #[.agg #[.int .i64 kind,.string ⟨text.toArray⟩,.bool ord,.slice ka keys.length kc,.slice ia items.length ic]] w fun e w'=>e=.returned (.bool (formB sclr ⟨kind,text,ord,keys,items⟩))/\Below w.heap.size w w':=by
 have HS:=hid hsc;clear hsc;obtain⟨w1,hw1⟩:=ex (w.alloc (.cells #[.int .i64 kind,.string ⟨text.toArray⟩,.bool ord,.slice ka keys.length kc,.slice ia items.length ic] 35))
 have l1:Below w.heap.size w w1:=by rw[<-hw1];exact(Below.refl _ _).alloc (Nat.le_refl _) _
 have b1:Blk w1 w.heap.size 35 #[.int .i64 kind,.string ⟨text.toArray⟩,.bool ord,.slice ka keys.length kc,.slice ia items.length ic]:=by rw[<-hw1];exact Blk.new _ _ _
 obtain⟨s0,s1,s2,s3,s4⟩:=cells5 b1;have L1:=hid l1;have HTW:Hid (T w1):=hid (hT _ _ hTw l1);have ht:=zg2 text;clear l1 b1 hTw;go_enter func35,ntmps35;go_upto_region 1 with fail;(try rw[hw1]);clear hw1;by_cases h9:kind=9
 ·subst h9;cases he:text.isEmpty with
  |false=>
   rw[he]at ht;have HF:Hid (formB sclr ⟨9,text,ord,keys,items⟩=false):=hid (by simp[formB,he]);go_wp2;go_ret;exact⟨by rw[HF.out]<;>rfl,L1.out⟩
  |true=>
   rw[he]at ht;cases ord with
   |true=>
    have HF:Hid (formB sclr ⟨9,text,true,keys,items⟩=false):=hid (by simp[formB]);go_wp2;go_ret;exact⟨by rw[HF.out]<;>rfl,L1.out⟩
   |false=>
    by_cases hk:keys=[]
    ·subst hk;have HF:Hid (formB sclr ⟨9,text,false,[],items⟩=true):=hid (by simp[formB,he]);go_wp2;go_ret;exact⟨by rw[HF.out]<;>rfl,L1.out⟩
    ·have h1:¬((keys.length:Int)=0):=by have:=List.length_pos_iff.2 hk;omega
     have h1b:((keys.length:Int)==0)=false:=by simpa using hk
     have HF:Hid (formB sclr ⟨9,text,false,keys,items⟩=false):=hid (by simp[formB,hk]);go_wp2;go_ret;exact⟨by rw[HF.out]<;>rfl,L1.out⟩
 ·have h9b:(kind==9)=false:=by simpa using h9
  by_cases h10:kind=10
  ·subst h10;cases he:text.isEmpty with
   |false=>
    rw[he]at ht;have HF:Hid (formB sclr ⟨10,text,ord,keys,items⟩=false):=hid (by simp[formB,he]);go_wp2;go_ret;exact⟨by rw[HF.out]<;>rfl,L1.out⟩
   |true=>
    rw[he]at ht;by_cases hki:keys.length=items.length
    ·have h1b:((keys.length:Int)==(items.length:Int))=true:=by simp[hki]
     have HKI:=hid hki;have h1:(keys.length:Int)=(items.length:Int):=by omega
     have H1:=hid h1;clear hki h1;have HF:Hid (formB sclr ⟨10,text,ord,keys,items⟩=true):=hid (by simp[formB,he,HKI.out]);go_wp2;go_ret;exact⟨by rw[HF.out]<;>rfl,L1.out⟩
    ·have h1:¬((keys.length:Int)=(items.length:Int)):=by omega
     have h1b:((keys.length:Int)==(items.length:Int))=false:=by simp;omega
     have HF:Hid (formB sclr ⟨10,text,ord,keys,items⟩=false):=hid (by simp[formB,hki]);go_wp2;go_ret;exact⟨by rw[HF.out]<;>rfl,L1.out⟩
  ·have h10b:(kind==10)=false:=by simpa using h10
   by_cases h11:kind=11
   ·subst h11;cases hn:nameB text with
    |false=>
     have HF:Hid (formB sclr ⟨11,text,ord,keys,items⟩=false):=hid (by simp[formB,hn]);have HN:=hid hn;go_wp2_with fail;refine(zdk text htl _).mono ?_;rintro e w2 ⟨rfl,hw2⟩;subst hw2;rw[HN.out];go_wp2;go_ret;exact⟨by rw[HF.out]<;>rfl,L1.out⟩
    |true=>
     have HN:=hid hn;cases ord with
     |true=>
      have HF:Hid (formB sclr ⟨11,text,true,keys,items⟩=false):=hid (by simp[formB]);go_wp2_with fail;refine(zdk text htl _).mono ?_;rintro e w2 ⟨rfl,hw2⟩;subst hw2;rw[HN.out];go_wp2;go_ret;exact⟨by rw[HF.out]<;>rfl,L1.out⟩
     |false=>
      by_cases hk:keys=[]
      ·subst hk;by_cases h1:items.length=1
       ·have HF:Hid (formB sclr ⟨11,text,false,[],items⟩=true):=hid (by simp[formB,hn,h1]);have h1b:((items.length:Int)==1)=true:=by simp[h1]
        clear h1;go_wp2_with fail;refine(zdk text htl _).mono ?_;rintro e w2 ⟨rfl,hw2⟩;subst hw2;rw[HN.out];go_wp2;go_ret;exact⟨by rw[HF.out]<;>rfl,L1.out⟩
       ·have HF:Hid (formB sclr ⟨11,text,false,[],items⟩=false):=hid (by simp[formB,h1]);have h1b:((items.length:Int)==1)=false:=by simp;omega
        have h1i:¬((items.length:Int)=1):=by omega
        go_wp2_with fail;refine(zdk text htl _).mono ?_;rintro e w2 ⟨rfl,hw2⟩;subst hw2;rw[HN.out];go_wp2;go_ret;exact⟨by rw[HF.out]<;>rfl,L1.out⟩
      ·have h1:¬((keys.length:Int)=0):=by have:=List.length_pos_iff.2 hk;omega
       have h1b:((keys.length:Int)==0)=false:=by simpa using hk
       have HF:Hid (formB sclr ⟨11,text,false,keys,items⟩=false):=hid (by simp[formB,hk]);go_wp2_with fail;refine(zdk text htl _).mono ?_;rintro e w2 ⟨rfl,hw2⟩;subst hw2;rw[HN.out];go_wp2;go_ret;exact⟨by rw[HF.out]<;>rfl,L1.out⟩
   ·have h11b:(kind==11)=false:=by simpa using h11
    cases ord with
    |true=>
     have HF:Hid (formB sclr ⟨kind,text,true,keys,items⟩=false):=hid (by simp[formB,h9,h10,h11]);go_wp2;go_ret;exact⟨by rw[HF.out]<;>rfl,L1.out⟩
    |false=>
     by_cases hk:keys=[]
     ·subst hk;by_cases hi:items=[]
      ·subst hi;have HF:Hid (formB sclr ⟨kind,text,false,[],[]⟩=sclr kind text):=hid (by simp[formB,h9,h10,h11]);have HC:=hid (HS.out h9 h10 h11 rfl rfl rfl w1 HTW.out);obtain⟨r,hr⟩:=ex (sclr kind text)
       rw[hr]at HC HF;clear hr;go_wp2_with fail;refine HC.out.mono ?_;rintro e w2 ⟨rfl,hb2⟩;have HB2:Hid (Below w.heap.size w w2):=hid (L1.out.trans (hb2.mono L1.out.size));clear hb2;go_wp2;go_ret;exact⟨by rw[HF.out]<;>rfl,HB2.out⟩
      ·have h1:¬((items.length:Int)=0):=by have:=List.length_pos_iff.2 hi;omega
       have h1b:((items.length:Int)==0)=false:=by simpa using hi
       have HF:Hid (formB sclr ⟨kind,text,false,[],items⟩=false):=hid (by simp[formB,h9,h10,h11,hi]);go_wp2;go_ret;exact⟨by rw[HF.out]<;>rfl,L1.out⟩
     ·have h1:¬((keys.length:Int)=0):=by have:=List.length_pos_iff.2 hk;omega
      have h1b:((keys.length:Int)==0)=false:=by simpa using hk
      have HF:Hid (formB sclr ⟨kind,text,false,keys,items⟩=false):=hid (by simp[formB,h9,h10,h11,hk]);go_wp2;go_ret;exact⟨by rw[HF.out]<;>rfl,L1.out⟩
def jcells (m:List Int):Array Value:=(m.map (fun(x:Int)=>Value.int .i64 x)).toArray
theorem zf5 (m:List Int) (i:Nat) (x:Int):(jcells m).setIfInBounds i (.int .i64 x)=jcells (m.set i x):=by
 simp[jcells,List.map_set]
theorem zb3 {m:List Int} {i:Nat} (h:i<m.length):(jcells m)[i]? =some (.int .i64 (m.getD i (-1))):=by
 simp[jcells,List.getD_eq_getElem?_getD,h]
structure TL where
 bN:Nat
 bI:Nat
 bL:Nat
 bS:Nat
 bO:Nat
 bV:Nat
 bG:Nat
 bZ:Nat
 bC:Nat
 rI:Nat
 rL:Nat
 rC:Nat
 rO:Nat
def TL.args (y:TL) (v:Value):Array Value:=#[v,.pointer (some ⟨y.bN,0,none⟩),.pointer (some ⟨y.bI,0,none⟩),.pointer (some ⟨y.bL,0,none⟩),.pointer (some ⟨y.bS,0,none⟩),.pointer (some ⟨y.bO,0,none⟩),.pointer (some ⟨y.bV,0,none⟩),.pointer (some ⟨y.bG,0,none⟩),.pointer (some ⟨y.bZ,0,none⟩),.pointer (some ⟨y.bC,0,none⟩)]
def TL.fn (y:TL):Value:=.func (.func 85) #[] #[.pointer (some ⟨y.bN,0,none⟩),.pointer (some ⟨y.bI,0,none⟩),.pointer (some ⟨y.bL,0,none⟩),.pointer (some ⟨y.bS,0,none⟩),.pointer (some ⟨y.bO,0,none⟩),.pointer (some ⟨y.bV,0,none⟩),.pointer (some ⟨y.bG,0,none⟩),.pointer (some ⟨y.bZ,0,none⟩),.pointer (some ⟨y.bC,0,none⟩)]
structure TLok (y:TL) (B D:Nat):Prop where
 nI:y.bN≠y.rI
 nL:y.bN≠y.rL
 nC:y.bN≠y.rC
 iL:y.rI≠y.rL
 iC:y.rI≠y.rC
 lC:y.rL≠y.rC
 sI:y.bS≠y.bI
 sL:y.bS≠y.bL
 sC:y.bS≠y.bC
 sZ:y.bS≠y.bZ
 zI:y.bZ≠y.bI
 zL:y.bZ≠y.bL
 zC:y.bZ≠y.bC
 dN:y.bN<D
 dI:y.rI<D
 dL:y.rL<D
 dC:y.rC<D
 dO:y.rO<D
 dS:y.bS<D
 dZ:y.bZ<D
 lo:B<=y.bN/\B<=y.rI/\B<=y.rL/\B<=y.rC/\B<=y.rO/\B<=y.bS/\B<=y.bZ/\B<=D
structure TAt (y:TL) (B D:Nat) (A:Option Addr) (c:Nat) (root:Int) (vs:List NV) (ns:List Gr.Nd) (w:World) (s:Gr.TS) (sv zv:Value):Prop where
 ok:TLok y B D
 hd:D<=w.heap.size
 xI:Blk w y.bI 33 #[.slice (some ⟨y.rI,0,none⟩) ns.length ns.length]
 xL:Blk w y.bL 33 #[.slice (some ⟨y.rL,0,none⟩) ns.length ns.length]
 xC:Blk w y.bC 33 #[.slice (some ⟨y.rC,0,none⟩) ns.length ns.length]
 xO:Blk w y.bO 62 #[.slice (some ⟨y.rO,0,none⟩) ns.length ns.length]
 xV:Blk w y.bV 88 #[y.fn]
 xG:Blk w y.bG 24 #[.slice A ns.length c,.int .i64 root]
 at_:GAt w B A vs ns
 bN:Blk w y.bN 3 #[.int .i64 (s.next:Int)]
 bS:Blk w y.bS 33 #[sv]
 bZ:Blk w y.bZ 33 #[zv]
 rI:Blk w y.rI 3 (icells s.idx)
 rL:Blk w y.rL 3 (icells s.low)
 rC:Blk w y.rC 3 (jcells s.inn)
 rO:Blk w y.rO 4 (bcells s.on)
 stk:OwnRow intL w D 3 sv s.stk
 siz:OwnRow intL w D 3 zv s.sizes
 apart:∀k,sv.ownBlock=some k->zv.ownBlock≠some k
section
variable {y:TL} {B D:Nat} {A:Option Addr} {c:Nat} {root:Int} {vs:List NV} {ns:List Gr.Nd} {w w':World} {s:Gr.TS} {sv zv:Value}
theorem TAt.svD (h:TAt y B D A c root vs ns w s sv zv) {k:Nat} (hk:k<D):sv.ownBlock≠some k:=fun e=>by have:=(h.stk.lt k e).1;omega
theorem TAt.zvD (h:TAt y B D A c root vs ns w s sv zv) {k:Nat} (hk:k<D):zv.ownBlock≠some k:=fun e=>by have:=(h.siz.lt k e).1;omega
theorem TAt.later (h:TAt y B D A c root vs ns w s sv zv) (hb:Below w.heap.size w w'):TAt y B D A c root vs ns w' s sv zv:=
 ⟨h.ok,Nat.le_trans h.hd hb.size,h.xI.below hb h.xI.lt,h.xL.below hb h.xL.lt,h.xC.below hb h.xC.lt,h.xO.below hb h.xO.lt,h.xV.below hb h.xV.lt,h.xG.below hb h.xG.lt,h.at_.below (hb.mono (Nat.le_trans h.ok.lo.2.2.2.2.2.2.2 h.hd)),
  h.bN.below hb h.bN.lt,h.bS.below hb h.bS.lt,h.bZ.below hb h.bZ.lt,h.rI.below hb h.rI.lt,h.rL.below hb h.rL.lt,h.rC.below hb h.rC.lt,h.rO.below hb h.rO.lt,h.stk.later hb,h.siz.later hb,h.apart⟩
theorem TAt.alloc (h:TAt y B D A c root vs ns w s sv zv) (o:Obj):TAt y B D A c root vs ns (w.alloc o) s sv zv:=h.later ((Below.refl _ _).alloc (Nat.le_refl _) o)
theorem TAt.drewN (h:TAt y B D A c root vs ns w s sv zv) (n:Nat):TAt y B D A c root vs ns (w.drewN n) s sv zv:=h.later (below_drewN (Below.refl _ _) n)
theorem TAt.drew (h:TAt y B D A c root vs ns w s sv zv):TAt y B D A c root vs ns w.drew s sv zv:=h.drewN 1
theorem TAt.setN (h:TAt y B D A c root vs ns w s sv zv) (x:Nat):TAt y B D A c root vs ns (w.setCell ⟨y.bN,0,none⟩ (.int .i64 (x:Int))) {s with next:=x} sv zv:=
 ⟨h.ok,by simp[World.setCell];exact h.hd,(h.xI.far (p:=⟨y.bN,0,none⟩) (h.xI.ne_ h.bN (by decide)) _),(h.xL.far (p:=⟨y.bN,0,none⟩) (h.xL.ne_ h.bN (by decide)) _),(h.xC.far (p:=⟨y.bN,0,none⟩) (h.xC.ne_ h.bN (by decide)) _),(h.xO.far (p:=⟨y.bN,0,none⟩) (h.xO.ne_ h.bN (by decide)) _),(h.xV.far (p:=⟨y.bN,0,none⟩) (h.xV.ne_ h.bN (by decide)) _),(h.xG.far (p:=⟨y.bN,0,none⟩) (h.xG.ne_ h.bN (by decide)) _),(h.at_.below ((Below.refl _ w).setCell (p:=⟨y.bN,0,none⟩) h.ok.lo.1 _)),(h.bN.set_ 0 _),(h.bS.far (p:=⟨y.bN,0,none⟩) (h.bS.ne_ h.bN (by decide)) _),(h.bZ.far (p:=⟨y.bN,0,none⟩) (h.bZ.ne_ h.bN (by decide)) _),(h.rI.far (p:=⟨y.bN,0,none⟩) h.ok.nI.symm _),(h.rL.far (p:=⟨y.bN,0,none⟩) h.ok.nL.symm _),(h.rC.far (p:=⟨y.bN,0,none⟩) h.ok.nC.symm _),(h.rO.far (p:=⟨y.bN,0,none⟩) (h.rO.ne_ h.bN (by decide)) _),(h.stk.setCell (p:=⟨y.bN,0,none⟩) (h.svD h.ok.dN) _),(h.siz.setCell (p:=⟨y.bN,0,none⟩) (h.zvD h.ok.dN) _),h.apart⟩
theorem TAt.setI (h:TAt y B D A c root vs ns w s sv zv) (v x:Nat):TAt y B D A c root vs ns (w.setCell ⟨y.rI,v,none⟩ (.int .i64 (x:Int))) {s with idx:=s.idx.set v x} sv zv:=
 ⟨h.ok,by simp[World.setCell];exact h.hd,(h.xI.far (p:=⟨y.rI,v,none⟩) (h.xI.ne_ h.rI (by decide)) _),(h.xL.far (p:=⟨y.rI,v,none⟩) (h.xL.ne_ h.rI (by decide)) _),(h.xC.far (p:=⟨y.rI,v,none⟩) (h.xC.ne_ h.rI (by decide)) _),(h.xO.far (p:=⟨y.rI,v,none⟩) (h.xO.ne_ h.rI (by decide)) _),(h.xV.far (p:=⟨y.rI,v,none⟩) (h.xV.ne_ h.rI (by decide)) _),(h.xG.far (p:=⟨y.rI,v,none⟩) (h.xG.ne_ h.rI (by decide)) _),(h.at_.below ((Below.refl _ w).setCell (p:=⟨y.rI,v,none⟩) h.ok.lo.2.1 _)),(h.bN.far (p:=⟨y.rI,v,none⟩) h.ok.nI _),(h.bS.far (p:=⟨y.rI,v,none⟩) (h.bS.ne_ h.rI (by decide)) _),(h.bZ.far (p:=⟨y.rI,v,none⟩) (h.bZ.ne_ h.rI (by decide)) _),(by have:=h.rI.set_ v (.int .i64 (x:Int));rw[zau]at this;exact this),(h.rL.far (p:=⟨y.rI,v,none⟩) h.ok.iL.symm _),(h.rC.far (p:=⟨y.rI,v,none⟩) h.ok.iC.symm _),(h.rO.far (p:=⟨y.rI,v,none⟩) (h.rO.ne_ h.rI (by decide)) _),(h.stk.setCell (p:=⟨y.rI,v,none⟩) (h.svD h.ok.dI) _),(h.siz.setCell (p:=⟨y.rI,v,none⟩) (h.zvD h.ok.dI) _),h.apart⟩
theorem TAt.setL (h:TAt y B D A c root vs ns w s sv zv) (v x:Nat):TAt y B D A c root vs ns (w.setCell ⟨y.rL,v,none⟩ (.int .i64 (x:Int))) {s with low:=s.low.set v x} sv zv:=
 ⟨h.ok,by simp[World.setCell];exact h.hd,(h.xI.far (p:=⟨y.rL,v,none⟩) (h.xI.ne_ h.rL (by decide)) _),(h.xL.far (p:=⟨y.rL,v,none⟩) (h.xL.ne_ h.rL (by decide)) _),(h.xC.far (p:=⟨y.rL,v,none⟩) (h.xC.ne_ h.rL (by decide)) _),(h.xO.far (p:=⟨y.rL,v,none⟩) (h.xO.ne_ h.rL (by decide)) _),(h.xV.far (p:=⟨y.rL,v,none⟩) (h.xV.ne_ h.rL (by decide)) _),(h.xG.far (p:=⟨y.rL,v,none⟩) (h.xG.ne_ h.rL (by decide)) _),(h.at_.below ((Below.refl _ w).setCell (p:=⟨y.rL,v,none⟩) h.ok.lo.2.2.1 _)),(h.bN.far (p:=⟨y.rL,v,none⟩) h.ok.nL _),(h.bS.far (p:=⟨y.rL,v,none⟩) (h.bS.ne_ h.rL (by decide)) _),(h.bZ.far (p:=⟨y.rL,v,none⟩) (h.bZ.ne_ h.rL (by decide)) _),(h.rI.far (p:=⟨y.rL,v,none⟩) h.ok.iL _),(by have:=h.rL.set_ v (.int .i64 (x:Int));rw[zau]at this;exact this),(h.rC.far (p:=⟨y.rL,v,none⟩) h.ok.lC.symm _),(h.rO.far (p:=⟨y.rL,v,none⟩) (h.rO.ne_ h.rL (by decide)) _),(h.stk.setCell (p:=⟨y.rL,v,none⟩) (h.svD h.ok.dL) _),(h.siz.setCell (p:=⟨y.rL,v,none⟩) (h.zvD h.ok.dL) _),h.apart⟩
theorem TAt.setC (h:TAt y B D A c root vs ns w s sv zv) (v:Nat) (x:Int):TAt y B D A c root vs ns (w.setCell ⟨y.rC,v,none⟩ (.int .i64 x)) {s with inn:=s.inn.set v x} sv zv:=
 ⟨h.ok,by simp[World.setCell];exact h.hd,(h.xI.far (p:=⟨y.rC,v,none⟩) (h.xI.ne_ h.rC (by decide)) _),(h.xL.far (p:=⟨y.rC,v,none⟩) (h.xL.ne_ h.rC (by decide)) _),(h.xC.far (p:=⟨y.rC,v,none⟩) (h.xC.ne_ h.rC (by decide)) _),(h.xO.far (p:=⟨y.rC,v,none⟩) (h.xO.ne_ h.rC (by decide)) _),(h.xV.far (p:=⟨y.rC,v,none⟩) (h.xV.ne_ h.rC (by decide)) _),(h.xG.far (p:=⟨y.rC,v,none⟩) (h.xG.ne_ h.rC (by decide)) _),(h.at_.below ((Below.refl _ w).setCell (p:=⟨y.rC,v,none⟩) h.ok.lo.2.2.2.1 _)),(h.bN.far (p:=⟨y.rC,v,none⟩) h.ok.nC _),(h.bS.far (p:=⟨y.rC,v,none⟩) (h.bS.ne_ h.rC (by decide)) _),(h.bZ.far (p:=⟨y.rC,v,none⟩) (h.bZ.ne_ h.rC (by decide)) _),(h.rI.far (p:=⟨y.rC,v,none⟩) h.ok.iC _),(h.rL.far (p:=⟨y.rC,v,none⟩) h.ok.lC _),(by have:=h.rC.set_ v (.int .i64 x);rw[zf5]at this;exact this),(h.rO.far (p:=⟨y.rC,v,none⟩) (h.rO.ne_ h.rC (by decide)) _),(h.stk.setCell (p:=⟨y.rC,v,none⟩) (h.svD h.ok.dC) _),(h.siz.setCell (p:=⟨y.rC,v,none⟩) (h.zvD h.ok.dC) _),h.apart⟩
theorem TAt.setO (h:TAt y B D A c root vs ns w s sv zv) (v:Nat) (b:Bool):TAt y B D A c root vs ns (w.setCell ⟨y.rO,v,none⟩ (.bool b)) {s with on:=s.on.set v b} sv zv:=
 ⟨h.ok,by simp[World.setCell];exact h.hd,(h.xI.far (p:=⟨y.rO,v,none⟩) (h.xI.ne_ h.rO (by decide)) _),(h.xL.far (p:=⟨y.rO,v,none⟩) (h.xL.ne_ h.rO (by decide)) _),(h.xC.far (p:=⟨y.rO,v,none⟩) (h.xC.ne_ h.rO (by decide)) _),(h.xO.far (p:=⟨y.rO,v,none⟩) (h.xO.ne_ h.rO (by decide)) _),(h.xV.far (p:=⟨y.rO,v,none⟩) (h.xV.ne_ h.rO (by decide)) _),(h.xG.far (p:=⟨y.rO,v,none⟩) (h.xG.ne_ h.rO (by decide)) _),(h.at_.below ((Below.refl _ w).setCell (p:=⟨y.rO,v,none⟩) h.ok.lo.2.2.2.2.1 _)),(h.bN.far (p:=⟨y.rO,v,none⟩) (h.bN.ne_ h.rO (by decide)) _),(h.bS.far (p:=⟨y.rO,v,none⟩) (h.bS.ne_ h.rO (by decide)) _),(h.bZ.far (p:=⟨y.rO,v,none⟩) (h.bZ.ne_ h.rO (by decide)) _),(h.rI.far (p:=⟨y.rO,v,none⟩) (h.rI.ne_ h.rO (by decide)) _),(h.rL.far (p:=⟨y.rO,v,none⟩) (h.rL.ne_ h.rO (by decide)) _),(h.rC.far (p:=⟨y.rO,v,none⟩) (h.rC.ne_ h.rO (by decide)) _),(by have:=h.rO.set_ v (.bool b);rw[zbz]at this;exact this),(h.stk.setCell (p:=⟨y.rO,v,none⟩) (h.svD h.ok.dO) _),(h.siz.setCell (p:=⟨y.rO,v,none⟩) (h.zvD h.ok.dO) _),h.apart⟩
theorem TAt.setS (h:TAt y B D A c root vs ns w s sv zv) {sv2:Value} {l:List Nat} (ho:OwnRow intL w D 3 sv2 l) (hap:∀k,sv2.ownBlock=some k->zv.ownBlock≠some k):TAt y B D A c root vs ns (w.setCell ⟨y.bS,0,none⟩ sv2) {s with stk:=l} sv2 zv:=
 ⟨h.ok,by simp[World.setCell];exact h.hd,(h.xI.far (p:=⟨y.bS,0,none⟩) h.ok.sI.symm _),(h.xL.far (p:=⟨y.bS,0,none⟩) h.ok.sL.symm _),(h.xC.far (p:=⟨y.bS,0,none⟩) h.ok.sC.symm _),(h.xO.far (p:=⟨y.bS,0,none⟩) (h.xO.ne_ h.bS (by decide)) _),(h.xV.far (p:=⟨y.bS,0,none⟩) (h.xV.ne_ h.bS (by decide)) _),(h.xG.far (p:=⟨y.bS,0,none⟩) (h.xG.ne_ h.bS (by decide)) _),(h.at_.below ((Below.refl _ w).setCell (p:=⟨y.bS,0,none⟩) h.ok.lo.2.2.2.2.2.1 _)),(h.bN.far (p:=⟨y.bS,0,none⟩) (h.bN.ne_ h.bS (by decide)) _),(h.bS.set_ 0 _),(h.bZ.far (p:=⟨y.bS,0,none⟩) h.ok.sZ.symm _),(h.rI.far (p:=⟨y.bS,0,none⟩) (h.rI.ne_ h.bS (by decide)) _),(h.rL.far (p:=⟨y.bS,0,none⟩) (h.rL.ne_ h.bS (by decide)) _),(h.rC.far (p:=⟨y.bS,0,none⟩) (h.rC.ne_ h.bS (by decide)) _),(h.rO.far (p:=⟨y.bS,0,none⟩) (h.rO.ne_ h.bS (by decide)) _),(ho.setCell (p:=⟨y.bS,0,none⟩) (fun e=>absurd (show D<=y.bS from(ho.lt _ e).1) (by have:=h.ok.dS;omega)) _),(h.siz.setCell (p:=⟨y.bS,0,none⟩) (h.zvD h.ok.dS) _),hap⟩
theorem zsg (g n c m:Nat) (hm:m<=c) (w:World):(Instr.slice 33 (.slice (some ⟨g,0,none⟩) n c) none (some (.int .i64 (m:Int))) none).run prog w=.ok (.slice (some ⟨g,0,none⟩) m c) w:=by
 obtain⟨i5,hi5,_,_,_⟩:=info_parts infoInt;rw[run_slice_h (P:=prog) 33 3 i5 underlying33 hi5 (some ⟨g,0,none⟩) n c m hm w];split<;>simp[Addr.add]
theorem OwnRow.shape {α:Type} {L:Lay α} {w:World} {base:Nat} {E:TypeId} {v:Value} {l:List α} (h:OwnRow L w base E v l) (hl:l≠[]):∃g cap,v=.slice (some ⟨g,0,none⟩) l.length cap/\l.length<=cap:=by
 rcases h.2 with⟨_,hn⟩|⟨g,cap,cur,hv,hbg,hh,hc,hm,hcs,htk⟩
 ·grind
 ·exact⟨g,cap,hv,hc⟩
theorem OwnRow.drop1 {α:Type} {L:Lay α} {w:World} {base:Nat} {E:TypeId} {g cap n:Nat} {l:List α} {x:α} (h:OwnRow L w base E (.slice (some ⟨g,0,none⟩) n cap) (l++[x])):OwnRow L w base E (.slice (some ⟨g,0,none⟩) l.length cap) l:=by
 rcases h.2 with⟨hv,_⟩|⟨g',cap',cur,hv,hbg,hh,hc,hm,hcs,htk⟩
 ·cases hv
 ·injection hv with e1 e2 e3
  injection e1 with e1
  injection e1 with e1
  subst e1;subst e3;rw[List.length_append,List.length_cons,List.length_nil]at hc htk;refine⟨L.all_len l,.inr ⟨g,cap,cur,rfl,hbg,hh,by omega,hm,hcs,?_⟩⟩;have h1:(cur.toList.take ((l.length+(0+1))*L.sz)).take (l.length*L.sz)=(L.all (l++[x])).take (l.length*L.sz):=by rw[htk]
  rw[List.take_take,L.all_append]at h1;rw[show min (l.length*L.sz) ((l.length+(0+1))*L.sz)=l.length*L.sz from by rw[Nat.add_mul];omega]at h1;rw[h1,List.take_append_of_le_length (by rw[L.all_len];exact Nat.le_refl _),List.take_of_length_le (by rw[L.all_len];exact Nat.le_refl _)]
theorem OwnRow.off {α:Type} {L:Lay α} {w w2:World} {base:Nat} {E:TypeId} {v:Value} {l:List α} {row:Option Nat} (h:OwnRow L w base E v l) (hg:w.grownBy w2 row) (hne:∀k,v.ownBlock=some k->some k≠row):OwnRow L w2 base E v l:=by
 have hlt:=h.lt;refine⟨h.1,h.2.imp id ?_⟩;rintro⟨g,cap,cur,hv,hge,hh,r⟩;have e:v.ownBlock=some g:=by rw[hv];rfl
 exact⟨g,cap,cur,hv,hge,(hg.block g (hlt g e).2 (hne g e)).trans hh,r⟩
theorem TAt.grownS (h:TAt y B D A c root vs ns w s sv zv) {w2:World} {sv2:Value} {l:List Nat} (ho:OwnRow intL w2 D 3 sv2 l) (hg:w.grownBy w2 sv.ownBlock) (hat:sv2.ownBlock=sv.ownBlock\/sv2.ownBlock=some w.heap.size):
 TAt y B D A c root vs ns (w2.setCell ⟨y.bS,0,none⟩ sv2) {s with stk:=l} sv2 zv:=by
 have kd:∀{g:Nat} {t:TypeId} {cs:Array Value},Blk w g t cs->g<D->Blk w2 g t cs:=fun hb hd=>hb.grown hg (fun e=>h.svD hd e.symm)
 have kt:∀{g:Nat} {t:TypeId} {cs:Array Value},Blk w g t cs->3≠t->Blk w2 g t cs:=fun hb hd=>hb.grown hg (fun e=>zbx h.stk hb hd e.symm)
 have hbel:Below D w w2:=h.stk.grown_below hg h.hd;have hz:OwnRow intL w2 D 3 zv s.sizes:=h.siz.off hg (fun k e e2=>h.apart k e2.symm e);have h2:TAt y B D A c root vs ns w2 {s with stk:=s.stk} sv2 zv\/True:=.inr trivial;clear h2;have hap:∀k,sv2.ownBlock=some k->zv.ownBlock≠some k:=fun k e e2=>by
  rcases hat with h1|h1
  ·exact h.apart k (h1.symm.trans e) e2
  ·have:=(h.siz.lt k e2).2;rw[h1]at e;injection e with e
   omega
 have hsz:=hg.size;exact⟨h.ok,by simp[World.setCell];exact Nat.le_trans h.hd hsz,((kt h.xI (by decide)).far (p:=⟨y.bS,0,none⟩) h.ok.sI.symm _),((kt h.xL (by decide)).far (p:=⟨y.bS,0,none⟩) h.ok.sL.symm _),((kt h.xC (by decide)).far (p:=⟨y.bS,0,none⟩) h.ok.sC.symm _),((kt h.xO (by decide)).far (p:=⟨y.bS,0,none⟩) (h.xO.ne_ h.bS (by decide)) _),((kt h.xV (by decide)).far (p:=⟨y.bS,0,none⟩) (h.xV.ne_ h.bS (by decide)) _),((kt h.xG (by decide)).far (p:=⟨y.bS,0,none⟩) (h.xG.ne_ h.bS (by decide)) _),(h.at_.below (hbel.mono h.ok.lo.2.2.2.2.2.2.2)).below ((Below.refl _ w2).setCell (p:=⟨y.bS,0,none⟩) h.ok.lo.2.2.2.2.2.1 _),((kd h.bN h.ok.dN).far (p:=⟨y.bS,0,none⟩) (h.bN.ne_ h.bS (by decide)) _),((kt h.bS (by decide)).set_ 0 _),((kt h.bZ (by decide)).far (p:=⟨y.bS,0,none⟩) h.ok.sZ.symm _),((kd h.rI h.ok.dI).far (p:=⟨y.bS,0,none⟩) (h.rI.ne_ h.bS (by decide)) _),((kd h.rL h.ok.dL).far (p:=⟨y.bS,0,none⟩) (h.rL.ne_ h.bS (by decide)) _),((kd h.rC h.ok.dC).far (p:=⟨y.bS,0,none⟩) (h.rC.ne_ h.bS (by decide)) _),((kt h.rO (by decide)).far (p:=⟨y.bS,0,none⟩) (h.rO.ne_ h.bS (by decide)) _),
  (ho.setCell (p:=⟨y.bS,0,none⟩) (fun e=>absurd (show D<=y.bS from(ho.lt _ e).1) (by have:=h.ok.dS;omega)) _),(hz.setCell (p:=⟨y.bS,0,none⟩) (h.zvD h.ok.dS) _),hap⟩
theorem TAt.grownZ (h:TAt y B D A c root vs ns w s sv zv) {w2:World} {zv2:Value} {l:List Nat} (ho:OwnRow intL w2 D 3 zv2 l) (hg:w.grownBy w2 zv.ownBlock) (hat:zv2.ownBlock=zv.ownBlock\/zv2.ownBlock=some w.heap.size):
 TAt y B D A c root vs ns (w2.setCell ⟨y.bZ,0,none⟩ zv2) {s with sizes:=l} sv zv2:=by
 have kd:∀{g:Nat} {t:TypeId} {cs:Array Value},Blk w g t cs->g<D->Blk w2 g t cs:=fun hb hd=>hb.grown hg (fun e=>h.zvD hd e.symm)
 have kt:∀{g:Nat} {t:TypeId} {cs:Array Value},Blk w g t cs->3≠t->Blk w2 g t cs:=fun hb hd=>hb.grown hg (fun e=>zbx h.siz hb hd e.symm)
 have hbel:Below D w w2:=h.siz.grown_below hg h.hd;have hz:OwnRow intL w2 D 3 sv s.stk:=h.stk.off hg (fun k e e2=>h.apart k e e2.symm);have hap:∀k,sv.ownBlock=some k->zv2.ownBlock≠some k:=fun k e e2=>by
  rcases hat with h1|h1
  ·exact h.apart k e (h1.symm.trans e2)
  ·have:=(h.stk.lt k e).2;rw[h1]at e2;injection e2 with e2
   omega
 have hsz:=hg.size;exact⟨h.ok,by simp[World.setCell];exact Nat.le_trans h.hd hsz,((kt h.xI (by decide)).far (p:=⟨y.bZ,0,none⟩) h.ok.zI.symm _),((kt h.xL (by decide)).far (p:=⟨y.bZ,0,none⟩) h.ok.zL.symm _),((kt h.xC (by decide)).far (p:=⟨y.bZ,0,none⟩) h.ok.zC.symm _),((kt h.xO (by decide)).far (p:=⟨y.bZ,0,none⟩) (h.xO.ne_ h.bZ (by decide)) _),((kt h.xV (by decide)).far (p:=⟨y.bZ,0,none⟩) (h.xV.ne_ h.bZ (by decide)) _),((kt h.xG (by decide)).far (p:=⟨y.bZ,0,none⟩) (h.xG.ne_ h.bZ (by decide)) _),(h.at_.below (hbel.mono h.ok.lo.2.2.2.2.2.2.2)).below ((Below.refl _ w2).setCell (p:=⟨y.bZ,0,none⟩) h.ok.lo.2.2.2.2.2.2.1 _),((kd h.bN h.ok.dN).far (p:=⟨y.bZ,0,none⟩) (h.bN.ne_ h.bZ (by decide)) _),((kt h.bS (by decide)).far (p:=⟨y.bZ,0,none⟩) h.ok.sZ _),((kt h.bZ (by decide)).set_ 0 _),((kd h.rI h.ok.dI).far (p:=⟨y.bZ,0,none⟩) (h.rI.ne_ h.bZ (by decide)) _),((kd h.rL h.ok.dL).far (p:=⟨y.bZ,0,none⟩) (h.rL.ne_ h.bZ (by decide)) _),((kd h.rC h.ok.dC).far (p:=⟨y.bZ,0,none⟩) (h.rC.ne_ h.bZ (by decide)) _),((kt h.rO (by decide)).far (p:=⟨y.bZ,0,none⟩) (h.rO.ne_ h.bZ (by decide)) _),
  (hz.setCell (p:=⟨y.bZ,0,none⟩) (h.svD h.ok.dZ) _),(ho.setCell (p:=⟨y.bZ,0,none⟩) (fun e=>absurd (show D<=y.bZ from(ho.lt _ e).1) (by have:=h.ok.dZ;omega)) _),hap⟩
end
structure TF (y:TL) (sv zv:Value) (w w':World) (sv' zv':Value):Prop where
 os:w'.os=w.os
 tape:w'.tape=w.tape
 output:w'.output=w.output
 size:w.heap.size<=w'.heap.size
 block:∀k,k<w.heap.size->k≠y.bN->k≠y.rI->k≠y.rL->k≠y.rC->k≠y.rO->k≠y.bS->k≠y.bZ->sv.ownBlock≠some k->zv.ownBlock≠some k->w'.heap[k]? =w.heap[k]?
 fs:∀k,sv'.ownBlock=some k->sv.ownBlock=some k\/w.heap.size<=k
 fz:∀k,zv'.ownBlock=some k->zv.ownBlock=some k\/w.heap.size<=k
section
variable {y:TL} {sv zv sv' zv' sv2 zv2:Value} {w w' w2:World}
theorem TF.refl (y:TL) (sv zv:Value) (w:World):TF y sv zv w w sv zv:=⟨rfl,rfl,rfl,Nat.le_refl _,fun _ _ _ _ _ _ _ _ _ _ _=>rfl,fun _ h=>.inl h,fun _ h=>.inl h⟩
theorem TF.trans (h:TF y sv zv w w' sv' zv') (h2:TF y sv' zv' w' w2 sv2 zv2):TF y sv zv w w2 sv2 zv2:=by
 refine⟨h2.os.trans h.os,h2.tape.trans h.tape,h2.output.trans h.output,Nat.le_trans h.size h2.size,?_,?_,?_⟩
 ·intro k hk a1 a2 a3 a4 a5 a6 a7 a8 a9;refine(h2.block k (Nat.lt_of_lt_of_le hk h.size) a1 a2 a3 a4 a5 a6 a7 (fun e=>?_) (fun e=>?_)).trans (h.block k hk a1 a2 a3 a4 a5 a6 a7 a8 a9)
  ·rcases h.fs k e with h3|h3
   ·exact a8 h3
   ·omega
  ·rcases h.fz k e with h3|h3
   ·exact a9 h3
   ·omega
 ·intro k e;rcases h2.fs k e with h3|h3
  ·exact h.fs k h3
  ·exact .inr (Nat.le_trans h.size h3)
 ·intro k e;rcases h2.fz k e with h3|h3
  ·exact h.fz k h3
  ·exact .inr (Nat.le_trans h.size h3)
theorem TF.of_below (hb:Below w.heap.size w w'):TF y sv zv w w' sv zv:=⟨hb.os,hb.tape,hb.output,hb.size,fun k hk _ _ _ _ _ _ _ _ _=>hb.block k hk,fun _ h=>.inl h,fun _ h=>.inl h⟩
theorem TF.alloc (h:TF y sv zv w w' sv' zv') (o:Obj):TF y sv zv w (w'.alloc o) sv' zv':=h.trans (TF.of_below ((Below.refl _ _).alloc (Nat.le_refl _) o))
theorem TF.drewN (h:TF y sv zv w w' sv' zv') (n:Nat):TF y sv zv w (w'.drewN n) sv' zv':=h.trans (TF.of_below (below_drewN (Below.refl _ _) n))
theorem TF.drew (h:TF y sv zv w w' sv' zv'):TF y sv zv w w'.drew sv' zv':=h.drewN 1
theorem TF.set (h:TF y sv zv w w' sv' zv') (g i:Nat) (hg:g=y.bN\/g=y.rI\/g=y.rL\/g=y.rC\/g=y.rO\/g=y.bS\/g=y.bZ) (u:Value):TF y sv zv w (w'.setCell ⟨g,i,none⟩ u) sv' zv':=by
 refine h.trans ⟨rfl,rfl,rfl,by simp[World.setCell],?_,fun _ h=>.inl h,fun _ h=>.inl h⟩;intro k _ a1 a2 a3 a4 a5 a6 a7 _ _;refine Below.heap_setCell _ _ _ _ ?_;show k≠g;rcases hg with rfl|rfl|rfl|rfl|rfl|rfl|rfl<;>assumption
theorem TF.blk (h:TF y sv zv w w' sv' zv') {k:Nat} {t:TypeId} {cs:Array Value} (hb:Blk w k t cs) (a1:k≠y.bN) (a2:k≠y.rI) (a3:k≠y.rL) (a4:k≠y.rC) (a5:k≠y.rO) (a6:k≠y.bS) (a7:k≠y.bZ) (a8:sv.ownBlock≠some k) (a9:zv.ownBlock≠some k):Blk w' k t cs:=
 (h.block k hb.lt a1 a2 a3 a4 a5 a6 a7 a8 a9).trans hb
end
theorem TF.grownS {B D:Nat} {A:Option Addr} {c:Nat} {root:Int} {vs:List NV} {ns:List Gr.Nd} {s:Gr.TS} {y:TL} {sv zv sv2:Value} {w w2:World} (_h:TAt y B D A c root vs ns w s sv zv) (hg:w.grownBy w2 sv.ownBlock) (hat:sv2.ownBlock=sv.ownBlock\/sv2.ownBlock=some w.heap.size):
 TF y sv zv w (w2.setCell ⟨y.bS,0,none⟩ sv2) sv2 zv:=by
 have hb:Below 0 w w2:=(Below.refl 0 w).grown hg (Nat.zero_le _) (fun _ _=>Nat.zero_le _);have h1:TF y sv zv w w2 sv2 zv:=⟨hb.os,hb.tape,hb.output,hb.size,fun k hk _ _ _ _ _ _ _ a8 _=>hg.block k hk (fun e=>a8 e.symm),fun k e=>by
  rcases hat with h1|h1
  ·exact .inl (h1.symm.trans e)
  ·right;rw[h1]at e;injection e with e;omega,fun _ e=>.inl e⟩
 exact h1.set y.bS 0 (by simp) _
theorem TF.grownZ {B D:Nat} {A:Option Addr} {c:Nat} {root:Int} {vs:List NV} {ns:List Gr.Nd} {s:Gr.TS} {y:TL} {sv zv zv2:Value} {w w2:World} (_h:TAt y B D A c root vs ns w s sv zv) (hg:w.grownBy w2 zv.ownBlock) (hat:zv2.ownBlock=zv.ownBlock\/zv2.ownBlock=some w.heap.size):
 TF y sv zv w (w2.setCell ⟨y.bZ,0,none⟩ zv2) sv zv2:=by
 have hb:Below 0 w w2:=(Below.refl 0 w).grown hg (Nat.zero_le _) (fun _ _=>Nat.zero_le _);have h1:TF y sv zv w w2 sv zv2:=⟨hb.os,hb.tape,hb.output,hb.size,fun k hk _ _ _ _ _ _ _ _ a9=>hg.block k hk (fun e=>a9 e.symm),fun _ e=>.inl e,fun k e=>by
  rcases hat with h1|h1
  ·exact .inl (h1.symm.trans e)
  ·right;rw[h1]at e;injection e with e;omega⟩
 exact h1.set y.bZ 0 (by simp) _
structure ABox (y:TL) (D:Nat) (w:World) (sv zv:Value) (bA v:Nat):Prop where
 b:Blk w bA 3 #[.int .i64 (v:Int)]
 hi:D<=bA
 s:sv.ownBlock≠some bA
 z:zv.ownBlock≠some bA
theorem ABox.kept {y:TL} {B D:Nat} {w w':World} {sv zv sv' zv':Value} {bA v:Nat} (h:ABox y D w sv zv bA v) (ok:TLok y B D) (hf:TF y sv zv w w' sv' zv'):ABox y D w' sv' zv' bA v:=by
 have hhi:=h.hi;have hlt:=h.b.lt;have:=ok.dN;have:=ok.dI;have:=ok.dL;have:=ok.dC;have:=ok.dO;have:=ok.dS;have:=ok.dZ;refine⟨hf.blk h.b (by omega) (by omega) (by omega) (by omega) (by omega) (by omega) (by omega) h.s h.z,h.hi,fun e=>?_,fun e=>?_⟩
 ·rcases hf.fs _ e with h1|h1
  ·exact h.s h1
  ·omega
 ·rcases hf.fz _ e with h1|h1
  ·exact h.z h1
  ·omega
def TPost (y:TL) (B D:Nat) (A:Option Addr) (c:Nat) (root:Int) (vs:List NV) (ns:List Gr.Nd) (w:World) (sv zv:Value) (s':Gr.TS) (e:Ending) (w':World):Prop:=
 e=.returned (.tuple #[])/\∃sv' zv',TAt y B D A c root vs ns w' s' sv' zv'/\TF y sv zv w w' sv' zv'
section
variable {y:TL} {B D:Nat} {A:Option Addr} {c:Nat} {root:Int} {vs:List NV} {ns:List Gr.Nd}
theorem zvc (w:World) (s:Gr.TS) (sv zv:Value) (bA v x:Nat) (h:TAt y B D A c root vs ns w s sv zv) (hA:ABox y D w sv zv bA v) (_hl:ns.length<=1073741823) (hv:v<ns.length) (hx:x<ns.length) (li:s.idx.length=ns.length) (ll:s.low.length=ns.length) (lo:s.on.length=ns.length)
 (hi:s.ix x≠0) (hon:s.onn x=true) (_hb1:s.lw v<=1073741824) (_hb2:s.ix x<=1073741824):
 Calls prog 86 #[.int .i64 x,.pointer (some ⟨y.bI,0,none⟩),.pointer (some ⟨y.bV,0,none⟩),.pointer (some ⟨y.bL,0,none⟩),.pointer (some ⟨bA,0,none⟩),.pointer (some ⟨y.bO,0,none⟩)] w (TPost y B D A c root vs ns w sv zv (s.lower v (s.ix x))):=by
 have i0:w.cell? ⟨y.bI,0,none⟩=some (.slice (some ⟨y.rI,0,none⟩) ns.length ns.length):=h.xI.cell 0;have l0:w.cell? ⟨y.bL,0,none⟩=some (.slice (some ⟨y.rL,0,none⟩) ns.length ns.length):=h.xL.cell 0;have o0:w.cell? ⟨y.bO,0,none⟩=some (.slice (some ⟨y.rO,0,none⟩) ns.length ns.length):=h.xO.cell 0;have a0:w.cell? ⟨bA,0,none⟩=some (.int .i64 (v:Int)):=hA.b.cell 0;obtain⟨p,hp⟩:=ex (s.ix x)
 obtain⟨q,hq⟩:=ex (s.lw v)
 have ix:w.cell? ⟨y.rI,x,none⟩=some (.int .i64 (p:Int)):=by rw[h.rI.cell,zad (by omega),<-hp];rfl
 have lv:w.cell? ⟨y.rL,v,none⟩=some (.int .i64 (q:Int)):=by rw[h.rL.cell,zad (by omega),<-hq];rfl
 have ox:w.cell? ⟨y.rO,x,none⟩=some (.bool true):=by rw[h.rO.cell,zah (by omega)];show some (Value.bool (s.onn x))=_;rw[hon]
 have lf:∀i,w.frozen? ⟨y.rL,i,none⟩=false:=h.rL.frozen;have hvI:(v:Int)<(ns.length:Int):=by omega
 have hxI:(x:Int)<(ns.length:Int):=by omega
 rw[hp]at hi _hb2;rw[hq]at _hb1;have hpI:¬((p:Int)=0):=by omega
 have hpb:((p:Int)==0)=false:=by simpa using hpI
 have HR:Hid (s.lower v p={s with low:=s.low.set v (min q p)}):=hid (by unfold Gr.TS.lower;rw[hq]);have H:=hid h;rw[hp];clear h hA hon hp hq;go_enter func86,ntmps86;go_upto_region 4 with fail;go_region
 all_goals go_wp2_with fail
 all_goals
  go_end0;refine⟨rfl,sv,zv,?_,((TF.refl _ _ _ _).set y.rL v (by simp) _).drew⟩;rw[HR.out]
  first
   | (rw[show min q p=q from by omega];exact(H.out.setL v q).drew)
   | (rw[show min (q:Int) (p:Int)=((min q p:Nat):Int)from by omega];exact(H.out.setL v (min q p)).drew)
   | (rw[show min q p=p from by omega];exact(H.out.setL v p).drew)
theorem zsh (w:World) (s:Gr.TS) (sv zv:Value) (bA x:Nat) (h:TAt y B D A c root vs ns w s sv zv) (_hl:ns.length<=1073741823) (hx:x<ns.length) (li:s.idx.length=ns.length) (lo:s.on.length=ns.length)
 (hi:s.ix x≠0) (hon:s.onn x=false) (_hb2:s.ix x<=1073741824):
 Calls prog 86 #[.int .i64 x,.pointer (some ⟨y.bI,0,none⟩),.pointer (some ⟨y.bV,0,none⟩),.pointer (some ⟨y.bL,0,none⟩),.pointer (some ⟨bA,0,none⟩),.pointer (some ⟨y.bO,0,none⟩)] w (TPost y B D A c root vs ns w sv zv s):=by
 have i0:w.cell? ⟨y.bI,0,none⟩=some (.slice (some ⟨y.rI,0,none⟩) ns.length ns.length):=h.xI.cell 0;have o0:w.cell? ⟨y.bO,0,none⟩=some (.slice (some ⟨y.rO,0,none⟩) ns.length ns.length):=h.xO.cell 0;obtain⟨p,hp⟩:=ex (s.ix x)
 have ix:w.cell? ⟨y.rI,x,none⟩=some (.int .i64 (p:Int)):=by rw[h.rI.cell,zad (by omega),<-hp];rfl
 have ox:w.cell? ⟨y.rO,x,none⟩=some (.bool false):=by rw[h.rO.cell,zah (by omega)];show some (Value.bool (s.onn x))=_;rw[hon]
 have hxI:(x:Int)<(ns.length:Int):=by omega
 rw[hp]at hi _hb2;have hpI:¬((p:Int)=0):=by omega
 have hpb:((p:Int)==0)=false:=by simpa using hpI
 have H:=hid h;clear h hon hp;go_enter func86,ntmps86;go_wp2_with fail;go_end0;exact⟨rfl,sv,zv,H.out,TF.refl _ _ _ _⟩
theorem zsi (w:World) (s s2:Gr.TS) (sv zv:Value) (bA v x:Nat) (h:TAt y B D A c root vs ns w s sv zv) (hA:ABox y D w sv zv bA v) (_hl:ns.length<=1073741823) (hv:v<ns.length) (hx:x<ns.length) (li:s.idx.length=ns.length) (ll:s2.low.length=ns.length)
 (hi:s.ix x=0) (_hb1:s2.lw v<=1073741824) (_hb2:s2.lw x<=1073741824) (hcall:Calls prog 85 (y.args (.int .i64 x)) w (TPost y B D A c root vs ns w sv zv s2)):
 Calls prog 86 #[.int .i64 x,.pointer (some ⟨y.bI,0,none⟩),.pointer (some ⟨y.bV,0,none⟩),.pointer (some ⟨y.bL,0,none⟩),.pointer (some ⟨bA,0,none⟩),.pointer (some ⟨y.bO,0,none⟩)] w (TPost y B D A c root vs ns w sv zv (s2.lower v (s2.lw x))):=by
 have i0:w.cell? ⟨y.bI,0,none⟩=some (.slice (some ⟨y.rI,0,none⟩) ns.length ns.length):=h.xI.cell 0;have v0:w.cell? ⟨y.bV,0,none⟩=some y.fn:=h.xV.cell 0;have ix:w.cell? ⟨y.rI,x,none⟩=some (.int .i64 0):=by rw[h.rI.cell,zad (by omega)];show some (Value.int .i64 ((s.ix x:Nat):Int))=_;rw[hi];rfl
 have hvI:(v:Int)<(ns.length:Int):=by omega
 have hxI:(x:Int)<(ns.length:Int):=by omega
 have HC:=hid hcall;have HA:=hid hA;obtain⟨p,hp⟩:=ex (s2.lw x)
 obtain⟨q,hq⟩:=ex (s2.lw v)
 have HP:=hid hp;have HQ:=hid hq;have HR:Hid (s2.lower v p={s2 with low:=s2.low.set v (min q p)}):=hid (by unfold Gr.TS.lower;rw[hq]);have HOK:=hid h.ok;rw[hp]at _hb2 ⊢;rw[hq]at _hb1;unfold TL.fn at v0;unfold TL.args at HC;clear h hA hcall hp hq;go_enter func86,ntmps86;go_wp2_with fail;refine HC.out.mono ?_;rintro e w2 ⟨rfl,sv2,zv2,h2,hf2⟩;have hA2:=HA.out.kept HOK.out hf2;have l0:w2.cell? ⟨y.bL,0,none⟩=some (.slice (some ⟨y.rL,0,none⟩) ns.length ns.length):=h2.xL.cell 0;have a0:w2.cell? ⟨bA,0,none⟩=some (.int .i64 (v:Int)):=hA2.b.cell 0;have lx:w2.cell? ⟨y.rL,x,none⟩=some (.int .i64 (p:Int)):=by rw[h2.rL.cell,zad (by omega),<-HP.out];rfl
 have lv:w2.cell? ⟨y.rL,v,none⟩=some (.int .i64 (q:Int)):=by rw[h2.rL.cell,zad (by omega),<-HQ.out];rfl
 have lf:∀i,w2.frozen? ⟨y.rL,i,none⟩=false:=h2.rL.frozen;have H:=hid h2;have HF2:=hid hf2;clear i0 v0 ix h2 hf2 hA2;go_upto_region 2 with fail;go_region
 all_goals go_wp2_with fail
 all_goals
  go_end0;refine⟨rfl,sv2,zv2,?_,(HF2.out.set y.rL v (by simp) _).drew⟩;rw[HR.out]
  first
   | (rw[show min q p=q from by omega];exact(H.out.setL v q).drew)
   | (rw[show min (q:Int) (p:Int)=((min q p:Nat):Int)from by omega];exact(H.out.setL v (min q p)).drew)
   | (rw[show min q p=p from by omega];exact(H.out.setL v p).drew)
end
end Go.Proofs.YtoigpackhninoaaGreatDoor

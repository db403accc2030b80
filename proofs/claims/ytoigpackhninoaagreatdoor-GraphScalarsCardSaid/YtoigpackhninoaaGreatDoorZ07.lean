/- Walks: form. The memory of the components' walk. Walks: the reference's clock of moments, from its point on. -/
import Derived.Test.YtoigpackhninoaaGreatDoorGrForm
import Derived.Test.YtoigpackhninoaaGreatDoorZ06
import Derived.Test.YtoigpackhninoaaGreatDoorGrInsR4T
namespace Go.Proofs.YtoigpackhninoaaGreatDoor
set_option maxRecDepth 100000
set_option maxHeartbeats 16000000
open Go.RowKit
def ScalOk (T:World->Prop) (kind:Int) (text:Gr.Str) (r:Bool):Prop:=∀w,T w->Calls Tryz.prog 42 #[.int .i64 kind,.string ⟨text.toArray⟩] w fun e w'=>e=.returned (.bool r)/\Below w.heap.size w w'
theorem text_eq (t:Gr.Str):((⟨t.toArray⟩:ByteArray)==⟨#[]⟩)=t.isEmpty:=by
 show(t.toArray==#[])=_;cases t with
 |nil=>rfl
 |cons a l=>simp
theorem form_any (T:World->Prop) (hT:Stays T) (sclr:Int->Gr.Str->Bool) (kind:Int) (text:Gr.Str) (ord:Bool) (keys items:List Nat) (ka ia:Option Addr) (kc ic:Nat) (htl:text.length<=1073741823)
 (hkl:keys.length<=1073741823) (hil:items.length<=1073741823)
 (hsc:kind≠9->kind≠10->kind≠11->ord=false->keys=[]->items=[]->ScalOk T kind text (sclr kind text)) (w:World) (hTw:T w):
 Calls Tryz.prog 35 #[.agg #[.int .i64 kind,.string ⟨text.toArray⟩,.bool ord,.slice ka keys.length kc,.slice ia items.length ic]] w fun e w'=>e=.returned (.bool (Gr.formB sclr ⟨kind,text,ord,keys,items⟩))/\Below w.heap.size w w':=by
 have HS:=Lib.hid hsc;clear hsc;obtain⟨w1,hw1⟩:∃w1,w.alloc (.cells #[.int .i64 kind,.string ⟨text.toArray⟩,.bool ord,.slice ka keys.length kc,.slice ia items.length ic] 35)=w1:=⟨_,rfl⟩
 have l1:Below w.heap.size w w1:=by rw[<-hw1];exact(Below.refl _ _).alloc (Nat.le_refl _) _
 have b1:Blk w1 w.heap.size 35 #[.int .i64 kind,.string ⟨text.toArray⟩,.bool ord,.slice ka keys.length kc,.slice ia items.length ic]:=by rw[<-hw1];exact Blk.new _ _ _
 obtain⟨s0,s1,s2,s3,s4⟩:=cells5 b1;have L1:=Lib.hid l1;have HTW:Hid (T w1):=Lib.hid (hT _ _ hTw l1);have ht:=text_eq text;clear l1 b1 hTw;go_enter Tryz.func35,Tryz.ntmps35;go_upto_region 1 with fail;(try rw[hw1]);clear hw1;by_cases h9:kind=9
 ·subst h9;cases he:text.isEmpty with
  |false=>
   rw[he]at ht;have HF:Hid (Gr.formB sclr ⟨9,text,ord,keys,items⟩=false):=Lib.hid (by simp[Gr.formB,he]);go_wp2_with fail;go_ret;exact⟨by rw[HF.out]<;>rfl,L1.out⟩
  |true=>
   rw[he]at ht;cases ord with
   |true=>
    have HF:Hid (Gr.formB sclr ⟨9,text,true,keys,items⟩=false):=Lib.hid (by simp[Gr.formB]);go_wp2_with fail;go_ret;exact⟨by rw[HF.out]<;>rfl,L1.out⟩
   |false=>
    by_cases hk:keys=[]
    ·subst hk;have HF:Hid (Gr.formB sclr ⟨9,text,false,[],items⟩=true):=Lib.hid (by simp[Gr.formB,he]);go_wp2_with fail;go_ret;exact⟨by rw[HF.out]<;>rfl,L1.out⟩
    ·have h1:¬((keys.length:Int)=0):=by have:=List.length_pos_iff.2 hk;omega
     have h1b:((keys.length:Int)==0)=false:=by simpa using hk
     have HF:Hid (Gr.formB sclr ⟨9,text,false,keys,items⟩=false):=Lib.hid (by simp[Gr.formB,hk]);go_wp2_with fail;go_ret;exact⟨by rw[HF.out]<;>rfl,L1.out⟩
 ·have h9b:(kind==9)=false:=by simpa using h9
  by_cases h10:kind=10
  ·subst h10;cases he:text.isEmpty with
   |false=>
    rw[he]at ht;have HF:Hid (Gr.formB sclr ⟨10,text,ord,keys,items⟩=false):=Lib.hid (by simp[Gr.formB,he]);go_wp2_with fail;go_ret;exact⟨by rw[HF.out]<;>rfl,L1.out⟩
   |true=>
    rw[he]at ht;by_cases hki:keys.length=items.length
    ·have h1b:((keys.length:Int)==(items.length:Int))=true:=by simp[hki]
     have HKI:=Lib.hid hki;have h1:(keys.length:Int)=(items.length:Int):=by omega
     have H1:=Lib.hid h1;clear hki h1;have HF:Hid (Gr.formB sclr ⟨10,text,ord,keys,items⟩=true):=Lib.hid (by simp[Gr.formB,he,HKI.out]);go_wp2_with fail;go_ret;exact⟨by rw[HF.out]<;>rfl,L1.out⟩
    ·have h1:¬((keys.length:Int)=(items.length:Int)):=by omega
     have h1b:((keys.length:Int)==(items.length:Int))=false:=by simp;omega
     have HF:Hid (Gr.formB sclr ⟨10,text,ord,keys,items⟩=false):=Lib.hid (by simp[Gr.formB,hki]);go_wp2_with fail;go_ret;exact⟨by rw[HF.out]<;>rfl,L1.out⟩
  ·have h10b:(kind==10)=false:=by simpa using h10
   by_cases h11:kind=11
   ·subst h11;cases hn:Gr.nameB text with
    |false=>
     have HF:Hid (Gr.formB sclr ⟨11,text,ord,keys,items⟩=false):=Lib.hid (by simp[Gr.formB,hn]);have HN:=Lib.hid hn;go_wp2_with fail;refine(name_any text htl _).mono ?_;rintro e w2 ⟨rfl,hw2⟩;subst hw2;rw[HN.out];go_wp2_with fail;go_ret;exact⟨by rw[HF.out]<;>rfl,L1.out⟩
    |true=>
     have HN:=Lib.hid hn;cases ord with
     |true=>
      have HF:Hid (Gr.formB sclr ⟨11,text,true,keys,items⟩=false):=Lib.hid (by simp[Gr.formB]);go_wp2_with fail;refine(name_any text htl _).mono ?_;rintro e w2 ⟨rfl,hw2⟩;subst hw2;rw[HN.out];go_wp2_with fail;go_ret;exact⟨by rw[HF.out]<;>rfl,L1.out⟩
     |false=>
      by_cases hk:keys=[]
      ·subst hk;by_cases h1:items.length=1
       ·have HF:Hid (Gr.formB sclr ⟨11,text,false,[],items⟩=true):=Lib.hid (by simp[Gr.formB,hn,h1]);have h1b:((items.length:Int)==1)=true:=by simp[h1]
        clear h1;go_wp2_with fail;refine(name_any text htl _).mono ?_;rintro e w2 ⟨rfl,hw2⟩;subst hw2;rw[HN.out];go_wp2_with fail;go_ret;exact⟨by rw[HF.out]<;>rfl,L1.out⟩
       ·have HF:Hid (Gr.formB sclr ⟨11,text,false,[],items⟩=false):=Lib.hid (by simp[Gr.formB,h1]);have h1b:((items.length:Int)==1)=false:=by simp;omega
        have h1i:¬((items.length:Int)=1):=by omega
        go_wp2_with fail;refine(name_any text htl _).mono ?_;rintro e w2 ⟨rfl,hw2⟩;subst hw2;rw[HN.out];go_wp2_with fail;go_ret;exact⟨by rw[HF.out]<;>rfl,L1.out⟩
      ·have h1:¬((keys.length:Int)=0):=by have:=List.length_pos_iff.2 hk;omega
       have h1b:((keys.length:Int)==0)=false:=by simpa using hk
       have HF:Hid (Gr.formB sclr ⟨11,text,false,keys,items⟩=false):=Lib.hid (by simp[Gr.formB,hk]);go_wp2_with fail;refine(name_any text htl _).mono ?_;rintro e w2 ⟨rfl,hw2⟩;subst hw2;rw[HN.out];go_wp2_with fail;go_ret;exact⟨by rw[HF.out]<;>rfl,L1.out⟩
   ·have h11b:(kind==11)=false:=by simpa using h11
    cases ord with
    |true=>
     have HF:Hid (Gr.formB sclr ⟨kind,text,true,keys,items⟩=false):=Lib.hid (by simp[Gr.formB,h9,h10,h11]);go_wp2_with fail;go_ret;exact⟨by rw[HF.out]<;>rfl,L1.out⟩
    |false=>
     by_cases hk:keys=[]
     ·subst hk;by_cases hi:items=[]
      ·subst hi;have HF:Hid (Gr.formB sclr ⟨kind,text,false,[],[]⟩=sclr kind text):=Lib.hid (by simp[Gr.formB,h9,h10,h11]);have HC:=Lib.hid (HS.out h9 h10 h11 rfl rfl rfl w1 HTW.out);obtain⟨r,hr⟩:∃r,sclr kind text=r:=⟨_,rfl⟩
       rw[hr]at HC HF;clear hr;go_wp2_with fail;refine HC.out.mono ?_;rintro e w2 ⟨rfl,hb2⟩;have HB2:Hid (Below w.heap.size w w2):=Lib.hid (L1.out.trans (hb2.mono L1.out.size));clear hb2;go_wp2_with fail;go_ret;exact⟨by rw[HF.out]<;>rfl,HB2.out⟩
      ·have h1:¬((items.length:Int)=0):=by have:=List.length_pos_iff.2 hi;omega
       have h1b:((items.length:Int)==0)=false:=by simpa using hi
       have HF:Hid (Gr.formB sclr ⟨kind,text,false,[],items⟩=false):=Lib.hid (by simp[Gr.formB,h9,h10,h11,hi]);go_wp2_with fail;go_ret;exact⟨by rw[HF.out]<;>rfl,L1.out⟩
     ·have h1:¬((keys.length:Int)=0):=by have:=List.length_pos_iff.2 hk;omega
      have h1b:((keys.length:Int)==0)=false:=by simpa using hk
      have HF:Hid (Gr.formB sclr ⟨kind,text,false,keys,items⟩=false):=Lib.hid (by simp[Gr.formB,h9,h10,h11,hk]);go_wp2_with fail;go_ret;exact⟨by rw[HF.out]<;>rfl,L1.out⟩
end Go.Proofs.YtoigpackhninoaaGreatDoor
namespace Go.Proofs.YtoigpackhninoaaGreatDoor
open Go.RowKit
def jcells (m:List Int):Array Value:=(m.map (fun(x:Int)=>Value.int .i64 x)).toArray
theorem jcells_set (m:List Int) (i:Nat) (x:Int):(jcells m).setIfInBounds i (.int .i64 x)=jcells (m.set i x):=by
 simp[jcells,List.map_set]
theorem jcells_get {m:List Int} {i:Nat} (h:i<m.length):(jcells m)[i]? =some (.int .i64 (m.getD i (-1))):=by
 simp[jcells,List.getD_eq_getElem?_getD,h]
structure TL where
 bN:Nat
 bI:Nat
 bL:Nat
 bS:Nat
 bO:Nat
 bV:Nat
 bG:Nat
 bZ:Nat
 bC:Nat
 rI:Nat
 rL:Nat
 rC:Nat
 rO:Nat
def TL.args (y:TL) (v:Value):Array Value:=#[v,.pointer (some ⟨y.bN,0,none⟩),.pointer (some ⟨y.bI,0,none⟩),.pointer (some ⟨y.bL,0,none⟩),.pointer (some ⟨y.bS,0,none⟩),.pointer (some ⟨y.bO,0,none⟩),.pointer (some ⟨y.bV,0,none⟩),.pointer (some ⟨y.bG,0,none⟩),.pointer (some ⟨y.bZ,0,none⟩),.pointer (some ⟨y.bC,0,none⟩)]
def TL.fn (y:TL):Value:=.func (.func 85) #[] #[.pointer (some ⟨y.bN,0,none⟩),.pointer (some ⟨y.bI,0,none⟩),.pointer (some ⟨y.bL,0,none⟩),.pointer (some ⟨y.bS,0,none⟩),.pointer (some ⟨y.bO,0,none⟩),.pointer (some ⟨y.bV,0,none⟩),.pointer (some ⟨y.bG,0,none⟩),.pointer (some ⟨y.bZ,0,none⟩),.pointer (some ⟨y.bC,0,none⟩)]
structure TLok (y:TL) (B D:Nat):Prop where
 nI:y.bN≠y.rI
 nL:y.bN≠y.rL
 nC:y.bN≠y.rC
 iL:y.rI≠y.rL
 iC:y.rI≠y.rC
 lC:y.rL≠y.rC
 sI:y.bS≠y.bI
 sL:y.bS≠y.bL
 sC:y.bS≠y.bC
 sZ:y.bS≠y.bZ
 zI:y.bZ≠y.bI
 zL:y.bZ≠y.bL
 zC:y.bZ≠y.bC
 dN:y.bN<D
 dI:y.rI<D
 dL:y.rL<D
 dC:y.rC<D
 dO:y.rO<D
 dS:y.bS<D
 dZ:y.bZ<D
 lo:B<=y.bN/\B<=y.rI/\B<=y.rL/\B<=y.rC/\B<=y.rO/\B<=y.bS/\B<=y.bZ/\B<=D
structure TAt (y:TL) (B D:Nat) (A:Option Addr) (c:Nat) (root:Int) (vs:List NV) (ns:List Gr.Nd) (w:World) (s:Gr.TS) (sv zv:Value):Prop where
 ok:TLok y B D
 hd:D<=w.heap.size
 xI:Blk w y.bI 33 #[.slice (some ⟨y.rI,0,none⟩) ns.length ns.length]
 xL:Blk w y.bL 33 #[.slice (some ⟨y.rL,0,none⟩) ns.length ns.length]
 xC:Blk w y.bC 33 #[.slice (some ⟨y.rC,0,none⟩) ns.length ns.length]
 xO:Blk w y.bO 62 #[.slice (some ⟨y.rO,0,none⟩) ns.length ns.length]
 xV:Blk w y.bV 88 #[y.fn]
 xG:Blk w y.bG 24 #[.slice A ns.length c,.int .i64 root]
 at_:GAt w B A vs ns
 bN:Blk w y.bN 3 #[.int .i64 (s.next:Int)]
 bS:Blk w y.bS 33 #[sv]
 bZ:Blk w y.bZ 33 #[zv]
 rI:Blk w y.rI 3 (icells s.idx)
 rL:Blk w y.rL 3 (icells s.low)
 rC:Blk w y.rC 3 (jcells s.inn)
 rO:Blk w y.rO 4 (bcells s.on)
 stk:OwnRow intL w D 3 sv s.stk
 siz:OwnRow intL w D 3 zv s.sizes
 apart:∀k,sv.ownBlock=some k->zv.ownBlock≠some k
section
variable {y:TL} {B D:Nat} {A:Option Addr} {c:Nat} {root:Int} {vs:List NV} {ns:List Gr.Nd} {w w':World} {s:Gr.TS} {sv zv:Value}
theorem TAt.svD (h:TAt y B D A c root vs ns w s sv zv) {k:Nat} (hk:k<D):sv.ownBlock≠some k:=fun e=>by have:=(h.stk.lt k e).1;omega
theorem TAt.zvD (h:TAt y B D A c root vs ns w s sv zv) {k:Nat} (hk:k<D):zv.ownBlock≠some k:=fun e=>by have:=(h.siz.lt k e).1;omega
theorem TAt.later (h:TAt y B D A c root vs ns w s sv zv) (hb:Below w.heap.size w w'):TAt y B D A c root vs ns w' s sv zv:=
 ⟨h.ok,Nat.le_trans h.hd hb.size,h.xI.below hb h.xI.lt,h.xL.below hb h.xL.lt,h.xC.below hb h.xC.lt,h.xO.below hb h.xO.lt,h.xV.below hb h.xV.lt,h.xG.below hb h.xG.lt,h.at_.below (hb.mono (Nat.le_trans h.ok.lo.2.2.2.2.2.2.2 h.hd)),
  h.bN.below hb h.bN.lt,h.bS.below hb h.bS.lt,h.bZ.below hb h.bZ.lt,h.rI.below hb h.rI.lt,h.rL.below hb h.rL.lt,h.rC.below hb h.rC.lt,h.rO.below hb h.rO.lt,h.stk.later hb,h.siz.later hb,h.apart⟩
theorem TAt.alloc (h:TAt y B D A c root vs ns w s sv zv) (o:Obj):TAt y B D A c root vs ns (w.alloc o) s sv zv:=h.later ((Below.refl _ _).alloc (Nat.le_refl _) o)
theorem TAt.drewN (h:TAt y B D A c root vs ns w s sv zv) (n:Nat):TAt y B D A c root vs ns (w.drewN n) s sv zv:=h.later (below_drewN (Below.refl _ _) n)
theorem TAt.drew (h:TAt y B D A c root vs ns w s sv zv):TAt y B D A c root vs ns w.drew s sv zv:=h.drewN 1
theorem TAt.setN (h:TAt y B D A c root vs ns w s sv zv) (x:Nat):TAt y B D A c root vs ns (w.setCell ⟨y.bN,0,none⟩ (.int .i64 (x:Int))) {s with next:=x} sv zv:=
 ⟨h.ok,by simp[World.setCell];exact h.hd,(h.xI.far (p:=⟨y.bN,0,none⟩) (h.xI.ne_ h.bN (by decide)) _),(h.xL.far (p:=⟨y.bN,0,none⟩) (h.xL.ne_ h.bN (by decide)) _),(h.xC.far (p:=⟨y.bN,0,none⟩) (h.xC.ne_ h.bN (by decide)) _),(h.xO.far (p:=⟨y.bN,0,none⟩) (h.xO.ne_ h.bN (by decide)) _),(h.xV.far (p:=⟨y.bN,0,none⟩) (h.xV.ne_ h.bN (by decide)) _),(h.xG.far (p:=⟨y.bN,0,none⟩) (h.xG.ne_ h.bN (by decide)) _),(h.at_.below ((Below.refl _ w).setCell (p:=⟨y.bN,0,none⟩) h.ok.lo.1 _)),(h.bN.set_ 0 _),(h.bS.far (p:=⟨y.bN,0,none⟩) (h.bS.ne_ h.bN (by decide)) _),(h.bZ.far (p:=⟨y.bN,0,none⟩) (h.bZ.ne_ h.bN (by decide)) _),(h.rI.far (p:=⟨y.bN,0,none⟩) h.ok.nI.symm _),(h.rL.far (p:=⟨y.bN,0,none⟩) h.ok.nL.symm _),(h.rC.far (p:=⟨y.bN,0,none⟩) h.ok.nC.symm _),(h.rO.far (p:=⟨y.bN,0,none⟩) (h.rO.ne_ h.bN (by decide)) _),(h.stk.setCell (p:=⟨y.bN,0,none⟩) (h.svD h.ok.dN) _),(h.siz.setCell (p:=⟨y.bN,0,none⟩) (h.zvD h.ok.dN) _),h.apart⟩
theorem TAt.setI (h:TAt y B D A c root vs ns w s sv zv) (v x:Nat):TAt y B D A c root vs ns (w.setCell ⟨y.rI,v,none⟩ (.int .i64 (x:Int))) {s with idx:=s.idx.set v x} sv zv:=
 ⟨h.ok,by simp[World.setCell];exact h.hd,(h.xI.far (p:=⟨y.rI,v,none⟩) (h.xI.ne_ h.rI (by decide)) _),(h.xL.far (p:=⟨y.rI,v,none⟩) (h.xL.ne_ h.rI (by decide)) _),(h.xC.far (p:=⟨y.rI,v,none⟩) (h.xC.ne_ h.rI (by decide)) _),(h.xO.far (p:=⟨y.rI,v,none⟩) (h.xO.ne_ h.rI (by decide)) _),(h.xV.far (p:=⟨y.rI,v,none⟩) (h.xV.ne_ h.rI (by decide)) _),(h.xG.far (p:=⟨y.rI,v,none⟩) (h.xG.ne_ h.rI (by decide)) _),(h.at_.below ((Below.refl _ w).setCell (p:=⟨y.rI,v,none⟩) h.ok.lo.2.1 _)),(h.bN.far (p:=⟨y.rI,v,none⟩) h.ok.nI _),(h.bS.far (p:=⟨y.rI,v,none⟩) (h.bS.ne_ h.rI (by decide)) _),(h.bZ.far (p:=⟨y.rI,v,none⟩) (h.bZ.ne_ h.rI (by decide)) _),(by have:=h.rI.set_ v (.int .i64 (x:Int));rw[icells_set]at this;exact this),(h.rL.far (p:=⟨y.rI,v,none⟩) h.ok.iL.symm _),(h.rC.far (p:=⟨y.rI,v,none⟩) h.ok.iC.symm _),(h.rO.far (p:=⟨y.rI,v,none⟩) (h.rO.ne_ h.rI (by decide)) _),(h.stk.setCell (p:=⟨y.rI,v,none⟩) (h.svD h.ok.dI) _),(h.siz.setCell (p:=⟨y.rI,v,none⟩) (h.zvD h.ok.dI) _),h.apart⟩
theorem TAt.setL (h:TAt y B D A c root vs ns w s sv zv) (v x:Nat):TAt y B D A c root vs ns (w.setCell ⟨y.rL,v,none⟩ (.int .i64 (x:Int))) {s with low:=s.low.set v x} sv zv:=
 ⟨h.ok,by simp[World.setCell];exact h.hd,(h.xI.far (p:=⟨y.rL,v,none⟩) (h.xI.ne_ h.rL (by decide)) _),(h.xL.far (p:=⟨y.rL,v,none⟩) (h.xL.ne_ h.rL (by decide)) _),(h.xC.far (p:=⟨y.rL,v,none⟩) (h.xC.ne_ h.rL (by decide)) _),(h.xO.far (p:=⟨y.rL,v,none⟩) (h.xO.ne_ h.rL (by decide)) _),(h.xV.far (p:=⟨y.rL,v,none⟩) (h.xV.ne_ h.rL (by decide)) _),(h.xG.far (p:=⟨y.rL,v,none⟩) (h.xG.ne_ h.rL (by decide)) _),(h.at_.below ((Below.refl _ w).setCell (p:=⟨y.rL,v,none⟩) h.ok.lo.2.2.1 _)),(h.bN.far (p:=⟨y.rL,v,none⟩) h.ok.nL _),(h.bS.far (p:=⟨y.rL,v,none⟩) (h.bS.ne_ h.rL (by decide)) _),(h.bZ.far (p:=⟨y.rL,v,none⟩) (h.bZ.ne_ h.rL (by decide)) _),(h.rI.far (p:=⟨y.rL,v,none⟩) h.ok.iL _),(by have:=h.rL.set_ v (.int .i64 (x:Int));rw[icells_set]at this;exact this),(h.rC.far (p:=⟨y.rL,v,none⟩) h.ok.lC.symm _),(h.rO.far (p:=⟨y.rL,v,none⟩) (h.rO.ne_ h.rL (by decide)) _),(h.stk.setCell (p:=⟨y.rL,v,none⟩) (h.svD h.ok.dL) _),(h.siz.setCell (p:=⟨y.rL,v,none⟩) (h.zvD h.ok.dL) _),h.apart⟩
theorem TAt.setC (h:TAt y B D A c root vs ns w s sv zv) (v:Nat) (x:Int):TAt y B D A c root vs ns (w.setCell ⟨y.rC,v,none⟩ (.int .i64 x)) {s with inn:=s.inn.set v x} sv zv:=
 ⟨h.ok,by simp[World.setCell];exact h.hd,(h.xI.far (p:=⟨y.rC,v,none⟩) (h.xI.ne_ h.rC (by decide)) _),(h.xL.far (p:=⟨y.rC,v,none⟩) (h.xL.ne_ h.rC (by decide)) _),(h.xC.far (p:=⟨y.rC,v,none⟩) (h.xC.ne_ h.rC (by decide)) _),(h.xO.far (p:=⟨y.rC,v,none⟩) (h.xO.ne_ h.rC (by decide)) _),(h.xV.far (p:=⟨y.rC,v,none⟩) (h.xV.ne_ h.rC (by decide)) _),(h.xG.far (p:=⟨y.rC,v,none⟩) (h.xG.ne_ h.rC (by decide)) _),(h.at_.below ((Below.refl _ w).setCell (p:=⟨y.rC,v,none⟩) h.ok.lo.2.2.2.1 _)),(h.bN.far (p:=⟨y.rC,v,none⟩) h.ok.nC _),(h.bS.far (p:=⟨y.rC,v,none⟩) (h.bS.ne_ h.rC (by decide)) _),(h.bZ.far (p:=⟨y.rC,v,none⟩) (h.bZ.ne_ h.rC (by decide)) _),(h.rI.far (p:=⟨y.rC,v,none⟩) h.ok.iC _),(h.rL.far (p:=⟨y.rC,v,none⟩) h.ok.lC _),(by have:=h.rC.set_ v (.int .i64 x);rw[jcells_set]at this;exact this),(h.rO.far (p:=⟨y.rC,v,none⟩) (h.rO.ne_ h.rC (by decide)) _),(h.stk.setCell (p:=⟨y.rC,v,none⟩) (h.svD h.ok.dC) _),(h.siz.setCell (p:=⟨y.rC,v,none⟩) (h.zvD h.ok.dC) _),h.apart⟩
theorem TAt.setO (h:TAt y B D A c root vs ns w s sv zv) (v:Nat) (b:Bool):TAt y B D A c root vs ns (w.setCell ⟨y.rO,v,none⟩ (.bool b)) {s with on:=s.on.set v b} sv zv:=
 ⟨h.ok,by simp[World.setCell];exact h.hd,(h.xI.far (p:=⟨y.rO,v,none⟩) (h.xI.ne_ h.rO (by decide)) _),(h.xL.far (p:=⟨y.rO,v,none⟩) (h.xL.ne_ h.rO (by decide)) _),(h.xC.far (p:=⟨y.rO,v,none⟩) (h.xC.ne_ h.rO (by decide)) _),(h.xO.far (p:=⟨y.rO,v,none⟩) (h.xO.ne_ h.rO (by decide)) _),(h.xV.far (p:=⟨y.rO,v,none⟩) (h.xV.ne_ h.rO (by decide)) _),(h.xG.far (p:=⟨y.rO,v,none⟩) (h.xG.ne_ h.rO (by decide)) _),(h.at_.below ((Below.refl _ w).setCell (p:=⟨y.rO,v,none⟩) h.ok.lo.2.2.2.2.1 _)),(h.bN.far (p:=⟨y.rO,v,none⟩) (h.bN.ne_ h.rO (by decide)) _),(h.bS.far (p:=⟨y.rO,v,none⟩) (h.bS.ne_ h.rO (by decide)) _),(h.bZ.far (p:=⟨y.rO,v,none⟩) (h.bZ.ne_ h.rO (by decide)) _),(h.rI.far (p:=⟨y.rO,v,none⟩) (h.rI.ne_ h.rO (by decide)) _),(h.rL.far (p:=⟨y.rO,v,none⟩) (h.rL.ne_ h.rO (by decide)) _),(h.rC.far (p:=⟨y.rO,v,none⟩) (h.rC.ne_ h.rO (by decide)) _),(by have:=h.rO.set_ v (.bool b);rw[bcells_set]at this;exact this),(h.stk.setCell (p:=⟨y.rO,v,none⟩) (h.svD h.ok.dO) _),(h.siz.setCell (p:=⟨y.rO,v,none⟩) (h.zvD h.ok.dO) _),h.apart⟩
theorem TAt.setS (h:TAt y B D A c root vs ns w s sv zv) {sv2:Value} {l:List Nat} (ho:OwnRow intL w D 3 sv2 l) (hap:∀k,sv2.ownBlock=some k->zv.ownBlock≠some k):TAt y B D A c root vs ns (w.setCell ⟨y.bS,0,none⟩ sv2) {s with stk:=l} sv2 zv:=
 ⟨h.ok,by simp[World.setCell];exact h.hd,(h.xI.far (p:=⟨y.bS,0,none⟩) h.ok.sI.symm _),(h.xL.far (p:=⟨y.bS,0,none⟩) h.ok.sL.symm _),(h.xC.far (p:=⟨y.bS,0,none⟩) h.ok.sC.symm _),(h.xO.far (p:=⟨y.bS,0,none⟩) (h.xO.ne_ h.bS (by decide)) _),(h.xV.far (p:=⟨y.bS,0,none⟩) (h.xV.ne_ h.bS (by decide)) _),(h.xG.far (p:=⟨y.bS,0,none⟩) (h.xG.ne_ h.bS (by decide)) _),(h.at_.below ((Below.refl _ w).setCell (p:=⟨y.bS,0,none⟩) h.ok.lo.2.2.2.2.2.1 _)),(h.bN.far (p:=⟨y.bS,0,none⟩) (h.bN.ne_ h.bS (by decide)) _),(h.bS.set_ 0 _),(h.bZ.far (p:=⟨y.bS,0,none⟩) h.ok.sZ.symm _),(h.rI.far (p:=⟨y.bS,0,none⟩) (h.rI.ne_ h.bS (by decide)) _),(h.rL.far (p:=⟨y.bS,0,none⟩) (h.rL.ne_ h.bS (by decide)) _),(h.rC.far (p:=⟨y.bS,0,none⟩) (h.rC.ne_ h.bS (by decide)) _),(h.rO.far (p:=⟨y.bS,0,none⟩) (h.rO.ne_ h.bS (by decide)) _),(ho.setCell (p:=⟨y.bS,0,none⟩) (fun e=>absurd (show D<=y.bS from(ho.lt _ e).1) (by have:=h.ok.dS;omega)) _),(h.siz.setCell (p:=⟨y.bS,0,none⟩) (h.zvD h.ok.dS) _),hap⟩
theorem cut_ints (g n c m:Nat) (hm:m<=c) (w:World):(Instr.slice 33 (.slice (some ⟨g,0,none⟩) n c) none (some (.int .i64 (m:Int))) none).run Tryz.prog w=.ok (.slice (some ⟨g,0,none⟩) m c) w:=by
 obtain⟨i5,hi5,_,_,_⟩:=info_parts infoInt;rw[run_slice_h (P:=Tryz.prog) 33 3 i5 Tryz.underlying33 hi5 (some ⟨g,0,none⟩) n c m hm w];split<;>simp[Addr.add]
theorem OwnRow.shape {α:Type} {L:Lay α} {w:World} {base:Nat} {E:TypeId} {v:Value} {l:List α} (h:OwnRow L w base E v l) (hl:l≠[]):∃g cap,v=.slice (some ⟨g,0,none⟩) l.length cap/\l.length<=cap:=by
 rcases h.2 with⟨_,hn⟩|⟨g,cap,cur,hv,hbg,hh,hc,hm,hcs,htk⟩
 ·exact absurd (List.eq_nil_of_length_eq_zero hn) hl
 ·exact⟨g,cap,hv,hc⟩
theorem OwnRow.drop1 {α:Type} {L:Lay α} {w:World} {base:Nat} {E:TypeId} {g cap n:Nat} {l:List α} {x:α} (h:OwnRow L w base E (.slice (some ⟨g,0,none⟩) n cap) (l++[x])):OwnRow L w base E (.slice (some ⟨g,0,none⟩) l.length cap) l:=by
 rcases h.2 with⟨hv,_⟩|⟨g',cap',cur,hv,hbg,hh,hc,hm,hcs,htk⟩
 ·cases hv
 ·injection hv with e1 e2 e3
  injection e1 with e1
  injection e1 with e1
  subst e1;subst e3;rw[List.length_append,List.length_cons,List.length_nil]at hc htk;refine⟨L.all_len l,.inr ⟨g,cap,cur,rfl,hbg,hh,by omega,hm,hcs,?_⟩⟩;have h1:(cur.toList.take ((l.length+(0+1))*L.sz)).take (l.length*L.sz)=(L.all (l++[x])).take (l.length*L.sz):=by rw[htk]
  rw[List.take_take,L.all_append]at h1;rw[show min (l.length*L.sz) ((l.length+(0+1))*L.sz)=l.length*L.sz from by rw[Nat.add_mul];omega]at h1;rw[h1,List.take_append_of_le_length (by rw[L.all_len];exact Nat.le_refl _),List.take_of_length_le (by rw[L.all_len];exact Nat.le_refl _)]
theorem OwnRow.off {α:Type} {L:Lay α} {w w2:World} {base:Nat} {E:TypeId} {v:Value} {l:List α} {row:Option Nat} (h:OwnRow L w base E v l) (hg:w.grownBy w2 row) (hne:∀k,v.ownBlock=some k->some k≠row):OwnRow L w2 base E v l:=by
 have hlt:=h.lt;refine⟨h.1,h.2.imp id ?_⟩;rintro⟨g,cap,cur,hv,hge,hh,r⟩;have e:v.ownBlock=some g:=by rw[hv];rfl
 exact⟨g,cap,cur,hv,hge,(hg.block g (hlt g e).2 (hne g e)).trans hh,r⟩
theorem TAt.grownS (h:TAt y B D A c root vs ns w s sv zv) {w2:World} {sv2:Value} {l:List Nat} (ho:OwnRow intL w2 D 3 sv2 l) (hg:w.grownBy w2 sv.ownBlock) (hat:sv2.ownBlock=sv.ownBlock\/sv2.ownBlock=some w.heap.size):
 TAt y B D A c root vs ns (w2.setCell ⟨y.bS,0,none⟩ sv2) {s with stk:=l} sv2 zv:=by
 have kd:∀{g:Nat} {t:TypeId} {cs:Array Value},Blk w g t cs->g<D->Blk w2 g t cs:=fun hb hd=>hb.grown hg (fun e=>h.svD hd e.symm)
 have kt:∀{g:Nat} {t:TypeId} {cs:Array Value},Blk w g t cs->3≠t->Blk w2 g t cs:=fun hb hd=>hb.grown hg (fun e=>own_blk_ne h.stk hb hd e.symm)
 have hbel:Below D w w2:=h.stk.grown_below hg h.hd;have hz:OwnRow intL w2 D 3 zv s.sizes:=h.siz.off hg (fun k e e2=>h.apart k e2.symm e);have h2:TAt y B D A c root vs ns w2 {s with stk:=s.stk} sv2 zv\/True:=.inr trivial;clear h2;have hap:∀k,sv2.ownBlock=some k->zv.ownBlock≠some k:=fun k e e2=>by
  rcases hat with h1|h1
  ·exact h.apart k (h1.symm.trans e) e2
  ·have:=(h.siz.lt k e2).2;rw[h1]at e;injection e with e
   omega
 have hsz:=hg.size;exact⟨h.ok,by simp[World.setCell];exact Nat.le_trans h.hd hsz,((kt h.xI (by decide)).far (p:=⟨y.bS,0,none⟩) h.ok.sI.symm _),((kt h.xL (by decide)).far (p:=⟨y.bS,0,none⟩) h.ok.sL.symm _),((kt h.xC (by decide)).far (p:=⟨y.bS,0,none⟩) h.ok.sC.symm _),((kt h.xO (by decide)).far (p:=⟨y.bS,0,none⟩) (h.xO.ne_ h.bS (by decide)) _),((kt h.xV (by decide)).far (p:=⟨y.bS,0,none⟩) (h.xV.ne_ h.bS (by decide)) _),((kt h.xG (by decide)).far (p:=⟨y.bS,0,none⟩) (h.xG.ne_ h.bS (by decide)) _),(h.at_.below (hbel.mono h.ok.lo.2.2.2.2.2.2.2)).below ((Below.refl _ w2).setCell (p:=⟨y.bS,0,none⟩) h.ok.lo.2.2.2.2.2.1 _),((kd h.bN h.ok.dN).far (p:=⟨y.bS,0,none⟩) (h.bN.ne_ h.bS (by decide)) _),((kt h.bS (by decide)).set_ 0 _),((kt h.bZ (by decide)).far (p:=⟨y.bS,0,none⟩) h.ok.sZ.symm _),((kd h.rI h.ok.dI).far (p:=⟨y.bS,0,none⟩) (h.rI.ne_ h.bS (by decide)) _),((kd h.rL h.ok.dL).far (p:=⟨y.bS,0,none⟩) (h.rL.ne_ h.bS (by decide)) _),((kd h.rC h.ok.dC).far (p:=⟨y.bS,0,none⟩) (h.rC.ne_ h.bS (by decide)) _),((kt h.rO (by decide)).far (p:=⟨y.bS,0,none⟩) (h.rO.ne_ h.bS (by decide)) _),
  (ho.setCell (p:=⟨y.bS,0,none⟩) (fun e=>absurd (show D<=y.bS from(ho.lt _ e).1) (by have:=h.ok.dS;omega)) _),(hz.setCell (p:=⟨y.bS,0,none⟩) (h.zvD h.ok.dS) _),hap⟩
theorem TAt.grownZ (h:TAt y B D A c root vs ns w s sv zv) {w2:World} {zv2:Value} {l:List Nat} (ho:OwnRow intL w2 D 3 zv2 l) (hg:w.grownBy w2 zv.ownBlock) (hat:zv2.ownBlock=zv.ownBlock\/zv2.ownBlock=some w.heap.size):
 TAt y B D A c root vs ns (w2.setCell ⟨y.bZ,0,none⟩ zv2) {s with sizes:=l} sv zv2:=by
 have kd:∀{g:Nat} {t:TypeId} {cs:Array Value},Blk w g t cs->g<D->Blk w2 g t cs:=fun hb hd=>hb.grown hg (fun e=>h.zvD hd e.symm)
 have kt:∀{g:Nat} {t:TypeId} {cs:Array Value},Blk w g t cs->3≠t->Blk w2 g t cs:=fun hb hd=>hb.grown hg (fun e=>own_blk_ne h.siz hb hd e.symm)
 have hbel:Below D w w2:=h.siz.grown_below hg h.hd;have hz:OwnRow intL w2 D 3 sv s.stk:=h.stk.off hg (fun k e e2=>h.apart k e e2.symm);have hap:∀k,sv.ownBlock=some k->zv2.ownBlock≠some k:=fun k e e2=>by
  rcases hat with h1|h1
  ·exact h.apart k e (h1.symm.trans e2)
  ·have:=(h.stk.lt k e).2;rw[h1]at e2;injection e2 with e2
   omega
 have hsz:=hg.size;exact⟨h.ok,by simp[World.setCell];exact Nat.le_trans h.hd hsz,((kt h.xI (by decide)).far (p:=⟨y.bZ,0,none⟩) h.ok.zI.symm _),((kt h.xL (by decide)).far (p:=⟨y.bZ,0,none⟩) h.ok.zL.symm _),((kt h.xC (by decide)).far (p:=⟨y.bZ,0,none⟩) h.ok.zC.symm _),((kt h.xO (by decide)).far (p:=⟨y.bZ,0,none⟩) (h.xO.ne_ h.bZ (by decide)) _),((kt h.xV (by decide)).far (p:=⟨y.bZ,0,none⟩) (h.xV.ne_ h.bZ (by decide)) _),((kt h.xG (by decide)).far (p:=⟨y.bZ,0,none⟩) (h.xG.ne_ h.bZ (by decide)) _),(h.at_.below (hbel.mono h.ok.lo.2.2.2.2.2.2.2)).below ((Below.refl _ w2).setCell (p:=⟨y.bZ,0,none⟩) h.ok.lo.2.2.2.2.2.2.1 _),((kd h.bN h.ok.dN).far (p:=⟨y.bZ,0,none⟩) (h.bN.ne_ h.bZ (by decide)) _),((kt h.bS (by decide)).far (p:=⟨y.bZ,0,none⟩) h.ok.sZ _),((kt h.bZ (by decide)).set_ 0 _),((kd h.rI h.ok.dI).far (p:=⟨y.bZ,0,none⟩) (h.rI.ne_ h.bZ (by decide)) _),((kd h.rL h.ok.dL).far (p:=⟨y.bZ,0,none⟩) (h.rL.ne_ h.bZ (by decide)) _),((kd h.rC h.ok.dC).far (p:=⟨y.bZ,0,none⟩) (h.rC.ne_ h.bZ (by decide)) _),((kt h.rO (by decide)).far (p:=⟨y.bZ,0,none⟩) (h.rO.ne_ h.bZ (by decide)) _),
  (hz.setCell (p:=⟨y.bZ,0,none⟩) (h.svD h.ok.dZ) _),(ho.setCell (p:=⟨y.bZ,0,none⟩) (fun e=>absurd (show D<=y.bZ from(ho.lt _ e).1) (by have:=h.ok.dZ;omega)) _),hap⟩
end
end Go.Proofs.YtoigpackhninoaaGreatDoor
namespace Go.Proofs.YtoigpackhninoaaGreatDoor
set_option maxRecDepth 100000
set_option maxHeartbeats 16000000
open Go.RowKit
theorem clock_dot (s:Gr.Str) (hl:s.length<=1073741823) (a:Nat) (ha:a<=1073741824) (date:Bool) (Y M D H N0 C:Int) (z:Bool) (w wy:World) (gb:Nat)
 (HGO:Hid (∀(r:Int) (ok:Bool) (n:Int) (w':World),Below w.heap.size w w'->(Gr.clockAt s a=none/\r=-1\/∃h m c f t:Nat,Gr.clockAt s a=some ⟨h,m,c,f,t⟩/\r=(t:Int)/\ok=true/\H=h/\N0=m/\C=c/\n=f)->ClockPost s a date Y M D w (.returned (.tuple #[.agg #[.bool date,.bool ok,.bool false,.int .i64 Y,.int .i64 M,.int .i64 D,.int .i64 H,.int .i64 N0,.int .i64 C,.int .i64 n,.int .i64 0,.bool false],.int .i64 r])) w'))
 (HF:Hid (∃h m c:Nat,Gr.numAt s a 2=some h/\Gr.numAt s (a+3) 2=some m/\Gr.numAt s (a+6) 2=some c/\H=h/\N0=m/\C=c)) (HP:Hid (Gr.isAt s (a+2) 58=true/\Gr.isAt s (a+5) 58=true/\Gr.isAt s (a+8) 46=z))
 (HI3:Hid (∀W,Calls Tryz.prog 136 #[.string ⟨s.toArray⟩,.int .i64 ((a:Int)+8),.int .u8 46] W fun e w'=>e=.returned (.bool z)/\W=w'))
 (HGB:Hid (w.heap.size=gb)) (HB:Hid (Blk wy gb 111 (T12 date true false Y M D H N0 C 0 0 false)/\Blk wy (gb+1) 111 (T12 false false false 0 0 0 0 0 0 0 0 false)/\Below gb w wy))
 (u2 u3 u4 u7 u8 u9 u10 u11 u12 u13 u14 u15 u16 u17 u18 u19 u20 u21 u22 u23 u24 u25 u26 u27 u28 u29 u30 u31 u32 u33 u34 u35 u36 u37 u38 u39 u40 u41 u42 u43 u44 u45 u46 u47 u48 u49 u50 u51 u52 u53 u54 u55 u56 u57 u58 u59 u60 u61 u62 u63 u64 u65 u66 u67 u68 u69 u70 u71 u72 u73 u74 u75 u76 u77 u78 u79 u80 u81 u82 u83 u84 u85 u86 u87 u88 u89 u90 u91 u92 u93 u94 u95 u96 u97 u98 u99 u100 u101 u102 u103 u104 u105 u106 u107 u108 u109 u110 u111 u112 u113 u114 u115:Value):
 Code.wp Tryz.prog (tl 5 (Tryz.f135.body.getD .skip)) (bodyPost Tryz.prog Tryz.f135 (ClockPost s a date Y M D w)) {tmps:=List.toArray (.string ⟨s.toArray⟩::.int .i64 ((a:Int)+8)::u2::u3::u4::.pointer (some ⟨gb,0,none⟩)::.pointer (some ⟨gb+1,0,none⟩)::u7::u8::u9::u10::u11::u12::u13::u14::u15::u16::u17::u18::u19::u20::u21::u22::u23::u24::u25::u26::u27::u28::u29::u30::u31::u32::u33::u34::u35::u36::u37::u38::u39::u40::u41::u42::u43::u44::u45::u46::u47::u48::u49::u50::u51::u52::u53::u54::u55::u56::u57::u58::u59::u60::u61::u62::u63::u64::u65::u66::u67::u68::u69::u70::u71::u72::u73::u74::u75::u76::u77::u78::u79::u80::u81::u82::u83::u84::u85::u86::u87::u88::u89::u90::u91::u92::u93::u94::u95::u96::u97::u98::u99::u100::u101::u102::u103::u104::u105::u106::u107::u108::u109::u110::u111::u112::u113::u114::u115::[]),defers:=[]} wy:=by
 generalize hc0:tl 5 (Tryz.f135.body.getD .skip)=c0;simp only[tl,Tryz.f135,Option.getD_some]at hc0;subst hc0;go_upto_region 6 with fail;go_cut [58] (fun s58 wx=>s58=.bool (!z)/\wx=wy)
 case first=>
  go_wp2_with fail;refine(HI3.out _).mono ?_;rintro e w1 ⟨rfl,rfl⟩;go_wp2_with fail;go_meet;exact⟨rfl,rfl⟩
 case rest=>
 obtain⟨rfl,rfl⟩:=hcut;refine(‹∀(a:Act) (w_1:World),Code.wp Tryz.prog _ _ a w_1->_›) _ _ ?_;go_cut [] (fun wz=>z=true/\wz=wc)
 case first=>
  obtain⟨q0,q1,q2,q3,q4,q5,q6,q7,q8,q9,q10,q11⟩:=cells12 HB.out.1;have xb:∀j,wc.cell? ⟨gb+1,j,none⟩=(#[.bool false,.bool false,.bool false,.int .i64 0,.int .i64 0,.int .i64 0,.int .i64 0,.int .i64 0,.int .i64 0,.int .i64 0,.int .i64 0,.bool false]:Array Value)[j]? :=fun j=>HB.out.2.1.cell j
  have xf:∀j,wc.frozen? ⟨gb+1,j,none⟩=false:=HB.out.2.1.frozen;cases z with
  |false=>
   go_wp2_with fail;have HSB:Hid (Blk ((((((((((((wc.setCell ⟨gb+1,0,none⟩ (.bool date)).setCell ⟨gb+1,1,none⟩ (.bool true)).setCell ⟨gb+1,2,none⟩ (.bool false)).setCell ⟨gb+1,3,none⟩ (.int .i64 Y)).setCell ⟨gb+1,4,none⟩ (.int .i64 M)).setCell ⟨gb+1,5,none⟩ (.int .i64 D)).setCell ⟨gb+1,6,none⟩ (.int .i64 H)).setCell ⟨gb+1,7,none⟩ (.int .i64 N0)).setCell ⟨gb+1,8,none⟩ (.int .i64 C)).setCell ⟨gb+1,9,none⟩ (.int .i64 0)).setCell ⟨gb+1,10,none⟩ (.int .i64 0)).setCell ⟨gb+1,11,none⟩ (.bool false)) (gb+1) 111 (T12 date true false Y M D H N0 C 0 0 false)):=Lib.hid (stored12 HB.out.2.1);have HSH:Hid (Below gb w ((((((((((((wc.setCell ⟨gb+1,0,none⟩ (.bool date)).setCell ⟨gb+1,1,none⟩ (.bool true)).setCell ⟨gb+1,2,none⟩ (.bool false)).setCell ⟨gb+1,3,none⟩ (.int .i64 Y)).setCell ⟨gb+1,4,none⟩ (.int .i64 M)).setCell ⟨gb+1,5,none⟩ (.int .i64 D)).setCell ⟨gb+1,6,none⟩ (.int .i64 H)).setCell ⟨gb+1,7,none⟩ (.int .i64 N0)).setCell ⟨gb+1,8,none⟩ (.int .i64 C)).setCell ⟨gb+1,9,none⟩ (.int .i64 0)).setCell ⟨gb+1,10,none⟩ (.int .i64 0)).setCell ⟨gb+1,11,none⟩ (.bool false))):=Lib.hid (below12 HB.out.2.2 (Nat.le_succ gb) _ _ _ _ _ _ _ _ _ _ _ _);obtain⟨e0,e1,e2,e3,e4,e5,e6,e7,e8,e9,e10,e11⟩:=cells12 HSB.out;refine bodyPost_ret (v:=.tuple #[.agg #[.bool date,.bool true,.bool false,.int .i64 Y,.int .i64 M,.int .i64 D,.int .i64 H,.int .i64 N0,.int .i64 C,.int .i64 0,.int .i64 0,.bool false],.int .i64 ((a:Int)+8)]) (by rw[results_cell_tmp rfl];go_simp) rfl ?_;refine HGO.out _ _ _ _ (by rw[HGB.out];exact HSH.out) (.inr ?_);obtain⟨h,m,c,h1,h2,h3,h4,h5,h6⟩:=HF.out;exact⟨h,m,c,0,a+8,clock_plain h1 h2 h3 HP.out.1 HP.out.2.1 HP.out.2.2,by omega,rfl,h4,h5,h6,rfl⟩
  |true=>
   go_wp2_with fail;go_meet
   first|exact⟨rfl,rfl⟩|exact⟨trivial,rfl⟩
 case rest=>
  obtain⟨rfl,rfl⟩:=hcut;have HA8:Hid (a+9<=s.length):=Lib.hid (by
   have:=HP.out.2.2;unfold Gr.isAt at this;rcases Nat.lt_or_ge (a+8) s.length with h|h
   ·omega
   ·rw[List.getElem?_eq_none h]at this;cases this)
  refine(‹∀(a:Act) (w_1:World),Code.wp Tryz.prog _ _ a w_1->_›) _ _ ?_;exact clock_tail s hl a ha date Y M D H N0 C w _ gb HGO HF HP HA8 HGB HB _ _ _ _ _ _ _ _ _ _ _ _ _ _ _ _ _ _ _ _ _ _ _ _ _ _ _ _ _ _ _ _ _ _ _ _ _ _ _ _ _ _ _ _ _ _ _ _ _ _ _ _ _ _ _ _ _ _ _ _ _ _ _ _ _ _ _ _ _ _ _ _ _ _ _ _ _ _ _ _ _ _ _ _ _ _ _ _ _ _ _ _ _ _ _ _ _ _ _ _ _ _ _ _ _ _ _ _ _ _ _ _
end Go.Proofs.YtoigpackhninoaaGreatDoor

import Derived.Test.YtpgmfihonmoliaaGreatDoorZ04
import Derived.Test.YtpgmfihonmoliaaGreatDoorZ06
namespace Go.Proofs.YtpgmfihonmoliaaGreatDoor
open Gr
open _root_.Go.Proofs.Tryz
open _root_.Go.Lib (hid)
set_option maxRecDepth 100000
set_option maxHeartbeats 16000000
open Go.RowKit
def ScalOk (T:World->Prop) (kind:Int) (text:Gr.Str) (r:Bool):Prop:=∀w,T w->Calls prog 22 #[.int .i64 kind,.string ⟨text.toArray⟩] w fun e w'=>e=.returned (.bool r)/\Below w.heap.size w w'
theorem zgh (t:Gr.Str):((⟨t.toArray⟩:ByteArray)==⟨#[]⟩)=t.isEmpty:=by
 show(t.toArray==#[])=_;cases t with
 |nil=>rfl
 |cons a l=>simp
theorem zr9 (T:World->Prop) (hT:Stays T) (sclr:Int->Gr.Str->Bool) (kind:Int) (text:Gr.Str) (ord:Bool) (keys items:List Nat) (ka ia:Option Addr) (kc ic:Nat) (htl:text.length<=1073741823)
 (hkl:keys.length<=1073741823) (hil:items.length<=1073741823)
 (hsc:kind≠9->kind≠10->kind≠11->ord=false->keys=[]->items=[]->ScalOk T kind text (sclr kind text)) (w:World) (hTw:T w):
 Calls prog 28 #[.agg #[.int .i64 kind,.string ⟨text.toArray⟩,.bool ord,.slice ka keys.length kc,.slice ia items.length ic]] w fun e w'=>e=.returned (.bool (formB sclr ⟨kind,text,ord,keys,items⟩))/\Below w.heap.size w w':=by
 have u:=hid hsc;clear hsc;obtain⟨k,g⟩:=ex (w.alloc (.cells #[.int .i64 kind,.string ⟨text.toArray⟩,.bool ord,.slice ka keys.length kc,.slice ia items.length ic] 38))
 have m:Below w.heap.size w k:=by rw[<-g];exact(Below.refl _ _).alloc (Nat.le_refl _) _
 have q:Blk k w.heap.size 38 #[.int .i64 kind,.string ⟨text.toArray⟩,.bool ord,.slice ka keys.length kc,.slice ia items.length ic]:=by rw[<-g];exact Blk.new _ _ _
 obtain⟨s0,s1,s2,s3,s4⟩:=cells5 q;have c:=hid m;have n:Hid (T k):=hid (hT _ _ hTw m);have l:=zgh text;clear m q hTw;go_enter func28,ntmps28;go_upto_region 1 with fail;(try rw[g]);clear g;by_cases h9:kind=9
 .subst h9;cases he:text.isEmpty with
  |false=>
   rw[he]at l;have a:Hid (formB sclr ⟨9,text,ord,keys,items⟩=false):=hid (by simp[formB,he]);go_wp2;go_ret;exact⟨by rw[a.out]<;>rfl,c.out⟩
  |true=>
   rw[he]at l;cases ord with
   |true=>
    have a:Hid (formB sclr ⟨9,text,true,keys,items⟩=false):=hid (by simp[formB]);go_wp2;go_ret;exact⟨by rw[a.out]<;>rfl,c.out⟩
   |false=>
    by_cases hk:keys=[]
    .subst hk;have a:Hid (formB sclr ⟨9,text,false,[],items⟩=true):=hid (by simp[formB,he]);go_wp2;go_ret;exact⟨by rw[a.out]<;>rfl,c.out⟩
    .have f:¬((keys.length:Int)=0):=by have:=List.length_pos_iff.2 hk;omega
     have d:((keys.length:Int)==0)=false:=by simpa using hk
     have a:Hid (formB sclr ⟨9,text,false,keys,items⟩=false):=hid (by simp[formB,hk]);go_wp2;go_ret;exact⟨by rw[a.out]<;>rfl,c.out⟩
 .have h9b:(kind==9)=false:=by simpa using h9
  by_cases h10:kind=10
  .subst h10;cases he:text.isEmpty with
   |false=>
    rw[he]at l;have a:Hid (formB sclr ⟨10,text,ord,keys,items⟩=false):=hid (by simp[formB,he]);go_wp2;go_ret;exact⟨by rw[a.out]<;>rfl,c.out⟩
   |true=>
    rw[he]at l;by_cases hki:keys.length=items.length
    .have d:((keys.length:Int)==(items.length:Int))=true:=by simp[hki]
     have o:=hid hki;have f:(keys.length:Int)=(items.length:Int):=by omega
     have H1:=hid f;clear hki f;have a:Hid (formB sclr ⟨10,text,ord,keys,items⟩=true):=hid (by simp[formB,he,o.out]);go_wp2;go_ret;exact⟨by rw[a.out]<;>rfl,c.out⟩
    .have f:¬((keys.length:Int)=(items.length:Int)):=by omega
     have d:((keys.length:Int)==(items.length:Int))=false:=by simp;omega
     have a:Hid (formB sclr ⟨10,text,ord,keys,items⟩=false):=hid (by simp[formB,hki]);go_wp2;go_ret;exact⟨by rw[a.out]<;>rfl,c.out⟩
  .have h10b:(kind==10)=false:=by simpa using h10
   by_cases h11:kind=11
   .subst h11;cases hn:nameB text with
    |false=>
     have a:Hid (formB sclr ⟨11,text,ord,keys,items⟩=false):=hid (by simp[formB,hn]);have h:=hid hn;go_wp2_with fail;refine(zdk text htl _).mono ?_;rintro e i ⟨rfl,b⟩;subst b;rw[h.out];go_wp2;go_ret;exact⟨by rw[a.out]<;>rfl,c.out⟩
    |true=>
     have h:=hid hn;cases ord with
     |true=>
      have a:Hid (formB sclr ⟨11,text,true,keys,items⟩=false):=hid (by simp[formB]);go_wp2_with fail;refine(zdk text htl _).mono ?_;rintro e i ⟨rfl,b⟩;subst b;rw[h.out];go_wp2;go_ret;exact⟨by rw[a.out]<;>rfl,c.out⟩
     |false=>
      by_cases hk:keys=[]
      .subst hk;by_cases f:items.length=1
       .have a:Hid (formB sclr ⟨11,text,false,[],items⟩=true):=hid (by simp[formB,hn,f]);have d:((items.length:Int)==1)=true:=by simp[f]
        clear f;go_wp2_with fail;refine(zdk text htl _).mono ?_;rintro e i ⟨rfl,b⟩;subst b;rw[h.out];go_wp2;go_ret;exact⟨by rw[a.out]<;>rfl,c.out⟩
       .have a:Hid (formB sclr ⟨11,text,false,[],items⟩=false):=hid (by simp[formB,f]);have d:((items.length:Int)==1)=false:=by simp;omega
        have h1i:¬((items.length:Int)=1):=by omega
        go_wp2_with fail;refine(zdk text htl _).mono ?_;rintro e i ⟨rfl,b⟩;subst b;rw[h.out];go_wp2;go_ret;exact⟨by rw[a.out]<;>rfl,c.out⟩
      .have f:¬((keys.length:Int)=0):=by have:=List.length_pos_iff.2 hk;omega
       have d:((keys.length:Int)==0)=false:=by simpa using hk
       have a:Hid (formB sclr ⟨11,text,false,keys,items⟩=false):=hid (by simp[formB,hk]);go_wp2_with fail;refine(zdk text htl _).mono ?_;rintro e i ⟨rfl,b⟩;subst b;rw[h.out];go_wp2;go_ret;exact⟨by rw[a.out]<;>rfl,c.out⟩
   .have h11b:(kind==11)=false:=by simpa using h11
    cases ord with
    |true=>
     have a:Hid (formB sclr ⟨kind,text,true,keys,items⟩=false):=hid (by simp[formB,h9,h10,h11]);go_wp2;go_ret;exact⟨by rw[a.out]<;>rfl,c.out⟩
    |false=>
     by_cases hk:keys=[]
     .subst hk;by_cases hi:items=[]
      .subst hi;have a:Hid (formB sclr ⟨kind,text,false,[],[]⟩=sclr kind text):=hid (by simp[formB,h9,h10,h11]);have s:=hid (u.out h9 h10 h11 rfl rfl rfl k n.out);obtain⟨r,t⟩:=ex (sclr kind text)
       rw[t]at s a;clear t;go_wp2_with fail;refine s.out.mono ?_;rintro e i ⟨rfl,j⟩;have p:Hid (Below w.heap.size w i):=hid (c.out.trans (j.mono c.out.size));clear j;go_wp2;go_ret;exact⟨by rw[a.out]<;>rfl,p.out⟩
      .have f:¬((items.length:Int)=0):=by have:=List.length_pos_iff.2 hi;omega
       have d:((items.length:Int)==0)=false:=by simpa using hi
       have a:Hid (formB sclr ⟨kind,text,false,[],items⟩=false):=hid (by simp[formB,h9,h10,h11,hi]);go_wp2;go_ret;exact⟨by rw[a.out]<;>rfl,c.out⟩
     .have f:¬((keys.length:Int)=0):=by have:=List.length_pos_iff.2 hk;omega
      have d:((keys.length:Int)==0)=false:=by simpa using hk
      have a:Hid (formB sclr ⟨kind,text,false,keys,items⟩=false):=hid (by simp[formB,h9,h10,h11,hk]);go_wp2;go_ret;exact⟨by rw[a.out]<;>rfl,c.out⟩
def jcells (m:List Int):Array Value:=(m.map (fun(x:Int)=>Value.int .i64 x)).toArray
theorem zfv (m:List Int) (i:Nat) (x:Int):(jcells m).setIfInBounds i (.int .i64 x)=jcells (m.set i x):=by
 simp[jcells,List.map_set]
theorem zb2 {m:List Int} {i:Nat} (h:i<m.length):(jcells m)[i]? =some (.int .i64 (m.getD i (-1))):=by
 simp[jcells,List.getD_eq_getElem?_getD,h]
structure TL where
 bN:Nat
 bI:Nat
 bL:Nat
 bS:Nat
 bO:Nat
 bV:Nat
 bG:Nat
 bZ:Nat
 bC:Nat
 rI:Nat
 rL:Nat
 rC:Nat
 rO:Nat
def TL.args (y:TL) (v:Value):Array Value:=#[v,.pointer (some ⟨y.bN,0,none⟩),.pointer (some ⟨y.bI,0,none⟩),.pointer (some ⟨y.bL,0,none⟩),.pointer (some ⟨y.bS,0,none⟩),.pointer (some ⟨y.bO,0,none⟩),.pointer (some ⟨y.bV,0,none⟩),.pointer (some ⟨y.bG,0,none⟩),.pointer (some ⟨y.bZ,0,none⟩),.pointer (some ⟨y.bC,0,none⟩)]
def TL.fn (y:TL):Value:=.func (.func 63) #[] #[.pointer (some ⟨y.bN,0,none⟩),.pointer (some ⟨y.bI,0,none⟩),.pointer (some ⟨y.bL,0,none⟩),.pointer (some ⟨y.bS,0,none⟩),.pointer (some ⟨y.bO,0,none⟩),.pointer (some ⟨y.bV,0,none⟩),.pointer (some ⟨y.bG,0,none⟩),.pointer (some ⟨y.bZ,0,none⟩),.pointer (some ⟨y.bC,0,none⟩)]
structure TLok (y:TL) (B D:Nat):Prop where
 nI:y.bN≠y.rI
 nL:y.bN≠y.rL
 nC:y.bN≠y.rC
 iL:y.rI≠y.rL
 iC:y.rI≠y.rC
 lC:y.rL≠y.rC
 sI:y.bS≠y.bI
 sL:y.bS≠y.bL
 sC:y.bS≠y.bC
 sZ:y.bS≠y.bZ
 zI:y.bZ≠y.bI
 zL:y.bZ≠y.bL
 zC:y.bZ≠y.bC
 dN:y.bN<D
 dI:y.rI<D
 dL:y.rL<D
 dC:y.rC<D
 dO:y.rO<D
 dS:y.bS<D
 dZ:y.bZ<D
 lo:B<=y.bN/\B<=y.rI/\B<=y.rL/\B<=y.rC/\B<=y.rO/\B<=y.bS/\B<=y.bZ/\B<=D
structure TAt (y:TL) (B D:Nat) (A:Option Addr) (c:Nat) (root:Int) (vs:List NV) (ns:List Gr.Nd) (w:World) (s:Gr.TS) (sv zv:Value):Prop where
 ok:TLok y B D
 hd:D<=w.heap.size
 xI:Blk w y.bI 36 #[.slice (some ⟨y.rI,0,none⟩) ns.length ns.length]
 xL:Blk w y.bL 36 #[.slice (some ⟨y.rL,0,none⟩) ns.length ns.length]
 xC:Blk w y.bC 36 #[.slice (some ⟨y.rC,0,none⟩) ns.length ns.length]
 xO:Blk w y.bO 51 #[.slice (some ⟨y.rO,0,none⟩) ns.length ns.length]
 xV:Blk w y.bV 74 #[y.fn]
 xG:Blk w y.bG 24 #[.slice A ns.length c,.int .i64 root]
 at_:GAt w B A vs ns
 bN:Blk w y.bN 3 #[.int .i64 (s.next:Int)]
 bS:Blk w y.bS 36 #[sv]
 bZ:Blk w y.bZ 36 #[zv]
 rI:Blk w y.rI 3 (icells s.idx)
 rL:Blk w y.rL 3 (icells s.low)
 rC:Blk w y.rC 3 (jcells s.inn)
 rO:Blk w y.rO 4 (bcells s.on)
 stk:OwnRow intL w D 3 sv s.stk
 siz:OwnRow intL w D 3 zv s.sizes
 apart:∀k,sv.ownBlock=some k->zv.ownBlock≠some k
section
variable {y:TL} {B D:Nat} {A:Option Addr} {c:Nat} {root:Int} {vs:List NV} {ns:List Gr.Nd} {w w':World} {s:Gr.TS} {sv zv:Value}
theorem TAt.svD (h:TAt y B D A c root vs ns w s sv zv) {k:Nat} (hk:k<D):sv.ownBlock≠some k:=fun e=>by have:=(h.stk.lt k e).1;omega
theorem TAt.zvD (h:TAt y B D A c root vs ns w s sv zv) {k:Nat} (hk:k<D):zv.ownBlock≠some k:=fun e=>by have:=(h.siz.lt k e).1;omega
theorem TAt.later (h:TAt y B D A c root vs ns w s sv zv) (hb:Below w.heap.size w w'):TAt y B D A c root vs ns w' s sv zv:=
 ⟨h.ok,Nat.le_trans h.hd hb.size,h.xI.below hb h.xI.lt,h.xL.below hb h.xL.lt,h.xC.below hb h.xC.lt,h.xO.below hb h.xO.lt,h.xV.below hb h.xV.lt,h.xG.below hb h.xG.lt,h.at_.below (hb.mono (Nat.le_trans h.ok.lo.2.2.2.2.2.2.2 h.hd)),
  h.bN.below hb h.bN.lt,h.bS.below hb h.bS.lt,h.bZ.below hb h.bZ.lt,h.rI.below hb h.rI.lt,h.rL.below hb h.rL.lt,h.rC.below hb h.rC.lt,h.rO.below hb h.rO.lt,h.stk.later hb,h.siz.later hb,h.apart⟩
theorem TAt.alloc (h:TAt y B D A c root vs ns w s sv zv) (o:Obj):TAt y B D A c root vs ns (w.alloc o) s sv zv:=h.later ((Below.refl _ _).alloc (Nat.le_refl _) o)
theorem TAt.drewN (h:TAt y B D A c root vs ns w s sv zv) (n:Nat):TAt y B D A c root vs ns (w.drewN n) s sv zv:=h.later (below_drewN (Below.refl _ _) n)
theorem TAt.drew (h:TAt y B D A c root vs ns w s sv zv):TAt y B D A c root vs ns w.drew s sv zv:=h.drewN 1
theorem TAt.setN (h:TAt y B D A c root vs ns w s sv zv) (x:Nat):TAt y B D A c root vs ns (w.setCell ⟨y.bN,0,none⟩ (.int .i64 (x:Int))) {s with next:=x} sv zv:=
 ⟨h.ok,by simp[World.setCell];exact h.hd,(h.xI.far (p:=⟨y.bN,0,none⟩) (h.xI.ne_ h.bN (by decide)) _),(h.xL.far (p:=⟨y.bN,0,none⟩) (h.xL.ne_ h.bN (by decide)) _),(h.xC.far (p:=⟨y.bN,0,none⟩) (h.xC.ne_ h.bN (by decide)) _),(h.xO.far (p:=⟨y.bN,0,none⟩) (h.xO.ne_ h.bN (by decide)) _),(h.xV.far (p:=⟨y.bN,0,none⟩) (h.xV.ne_ h.bN (by decide)) _),(h.xG.far (p:=⟨y.bN,0,none⟩) (h.xG.ne_ h.bN (by decide)) _),(h.at_.below ((Below.refl _ w).setCell (p:=⟨y.bN,0,none⟩) h.ok.lo.1 _)),(h.bN.set_ 0 _),(h.bS.far (p:=⟨y.bN,0,none⟩) (h.bS.ne_ h.bN (by decide)) _),(h.bZ.far (p:=⟨y.bN,0,none⟩) (h.bZ.ne_ h.bN (by decide)) _),(h.rI.far (p:=⟨y.bN,0,none⟩) h.ok.nI.symm _),(h.rL.far (p:=⟨y.bN,0,none⟩) h.ok.nL.symm _),(h.rC.far (p:=⟨y.bN,0,none⟩) h.ok.nC.symm _),(h.rO.far (p:=⟨y.bN,0,none⟩) (h.rO.ne_ h.bN (by decide)) _),(h.stk.setCell (p:=⟨y.bN,0,none⟩) (h.svD h.ok.dN) _),(h.siz.setCell (p:=⟨y.bN,0,none⟩) (h.zvD h.ok.dN) _),h.apart⟩
theorem TAt.setI (h:TAt y B D A c root vs ns w s sv zv) (v x:Nat):TAt y B D A c root vs ns (w.setCell ⟨y.rI,v,none⟩ (.int .i64 (x:Int))) {s with idx:=s.idx.set v x} sv zv:=
 ⟨h.ok,by simp[World.setCell];exact h.hd,(h.xI.far (p:=⟨y.rI,v,none⟩) (h.xI.ne_ h.rI (by decide)) _),(h.xL.far (p:=⟨y.rI,v,none⟩) (h.xL.ne_ h.rI (by decide)) _),(h.xC.far (p:=⟨y.rI,v,none⟩) (h.xC.ne_ h.rI (by decide)) _),(h.xO.far (p:=⟨y.rI,v,none⟩) (h.xO.ne_ h.rI (by decide)) _),(h.xV.far (p:=⟨y.rI,v,none⟩) (h.xV.ne_ h.rI (by decide)) _),(h.xG.far (p:=⟨y.rI,v,none⟩) (h.xG.ne_ h.rI (by decide)) _),(h.at_.below ((Below.refl _ w).setCell (p:=⟨y.rI,v,none⟩) h.ok.lo.2.1 _)),(h.bN.far (p:=⟨y.rI,v,none⟩) h.ok.nI _),(h.bS.far (p:=⟨y.rI,v,none⟩) (h.bS.ne_ h.rI (by decide)) _),(h.bZ.far (p:=⟨y.rI,v,none⟩) (h.bZ.ne_ h.rI (by decide)) _),(by have:=h.rI.set_ v (.int .i64 (x:Int));rw[zam]at this;exact this),(h.rL.far (p:=⟨y.rI,v,none⟩) h.ok.iL.symm _),(h.rC.far (p:=⟨y.rI,v,none⟩) h.ok.iC.symm _),(h.rO.far (p:=⟨y.rI,v,none⟩) (h.rO.ne_ h.rI (by decide)) _),(h.stk.setCell (p:=⟨y.rI,v,none⟩) (h.svD h.ok.dI) _),(h.siz.setCell (p:=⟨y.rI,v,none⟩) (h.zvD h.ok.dI) _),h.apart⟩
theorem TAt.setL (h:TAt y B D A c root vs ns w s sv zv) (v x:Nat):TAt y B D A c root vs ns (w.setCell ⟨y.rL,v,none⟩ (.int .i64 (x:Int))) {s with low:=s.low.set v x} sv zv:=
 ⟨h.ok,by simp[World.setCell];exact h.hd,(h.xI.far (p:=⟨y.rL,v,none⟩) (h.xI.ne_ h.rL (by decide)) _),(h.xL.far (p:=⟨y.rL,v,none⟩) (h.xL.ne_ h.rL (by decide)) _),(h.xC.far (p:=⟨y.rL,v,none⟩) (h.xC.ne_ h.rL (by decide)) _),(h.xO.far (p:=⟨y.rL,v,none⟩) (h.xO.ne_ h.rL (by decide)) _),(h.xV.far (p:=⟨y.rL,v,none⟩) (h.xV.ne_ h.rL (by decide)) _),(h.xG.far (p:=⟨y.rL,v,none⟩) (h.xG.ne_ h.rL (by decide)) _),(h.at_.below ((Below.refl _ w).setCell (p:=⟨y.rL,v,none⟩) h.ok.lo.2.2.1 _)),(h.bN.far (p:=⟨y.rL,v,none⟩) h.ok.nL _),(h.bS.far (p:=⟨y.rL,v,none⟩) (h.bS.ne_ h.rL (by decide)) _),(h.bZ.far (p:=⟨y.rL,v,none⟩) (h.bZ.ne_ h.rL (by decide)) _),(h.rI.far (p:=⟨y.rL,v,none⟩) h.ok.iL _),(by have:=h.rL.set_ v (.int .i64 (x:Int));rw[zam]at this;exact this),(h.rC.far (p:=⟨y.rL,v,none⟩) h.ok.lC.symm _),(h.rO.far (p:=⟨y.rL,v,none⟩) (h.rO.ne_ h.rL (by decide)) _),(h.stk.setCell (p:=⟨y.rL,v,none⟩) (h.svD h.ok.dL) _),(h.siz.setCell (p:=⟨y.rL,v,none⟩) (h.zvD h.ok.dL) _),h.apart⟩
theorem TAt.setC (h:TAt y B D A c root vs ns w s sv zv) (v:Nat) (x:Int):TAt y B D A c root vs ns (w.setCell ⟨y.rC,v,none⟩ (.int .i64 x)) {s with inn:=s.inn.set v x} sv zv:=
 ⟨h.ok,by simp[World.setCell];exact h.hd,(h.xI.far (p:=⟨y.rC,v,none⟩) (h.xI.ne_ h.rC (by decide)) _),(h.xL.far (p:=⟨y.rC,v,none⟩) (h.xL.ne_ h.rC (by decide)) _),(h.xC.far (p:=⟨y.rC,v,none⟩) (h.xC.ne_ h.rC (by decide)) _),(h.xO.far (p:=⟨y.rC,v,none⟩) (h.xO.ne_ h.rC (by decide)) _),(h.xV.far (p:=⟨y.rC,v,none⟩) (h.xV.ne_ h.rC (by decide)) _),(h.xG.far (p:=⟨y.rC,v,none⟩) (h.xG.ne_ h.rC (by decide)) _),(h.at_.below ((Below.refl _ w).setCell (p:=⟨y.rC,v,none⟩) h.ok.lo.2.2.2.1 _)),(h.bN.far (p:=⟨y.rC,v,none⟩) h.ok.nC _),(h.bS.far (p:=⟨y.rC,v,none⟩) (h.bS.ne_ h.rC (by decide)) _),(h.bZ.far (p:=⟨y.rC,v,none⟩) (h.bZ.ne_ h.rC (by decide)) _),(h.rI.far (p:=⟨y.rC,v,none⟩) h.ok.iC _),(h.rL.far (p:=⟨y.rC,v,none⟩) h.ok.lC _),(by have:=h.rC.set_ v (.int .i64 x);rw[zfv]at this;exact this),(h.rO.far (p:=⟨y.rC,v,none⟩) (h.rO.ne_ h.rC (by decide)) _),(h.stk.setCell (p:=⟨y.rC,v,none⟩) (h.svD h.ok.dC) _),(h.siz.setCell (p:=⟨y.rC,v,none⟩) (h.zvD h.ok.dC) _),h.apart⟩
theorem TAt.setO (h:TAt y B D A c root vs ns w s sv zv) (v:Nat) (b:Bool):TAt y B D A c root vs ns (w.setCell ⟨y.rO,v,none⟩ (.bool b)) {s with on:=s.on.set v b} sv zv:=
 ⟨h.ok,by simp[World.setCell];exact h.hd,(h.xI.far (p:=⟨y.rO,v,none⟩) (h.xI.ne_ h.rO (by decide)) _),(h.xL.far (p:=⟨y.rO,v,none⟩) (h.xL.ne_ h.rO (by decide)) _),(h.xC.far (p:=⟨y.rO,v,none⟩) (h.xC.ne_ h.rO (by decide)) _),(h.xO.far (p:=⟨y.rO,v,none⟩) (h.xO.ne_ h.rO (by decide)) _),(h.xV.far (p:=⟨y.rO,v,none⟩) (h.xV.ne_ h.rO (by decide)) _),(h.xG.far (p:=⟨y.rO,v,none⟩) (h.xG.ne_ h.rO (by decide)) _),(h.at_.below ((Below.refl _ w).setCell (p:=⟨y.rO,v,none⟩) h.ok.lo.2.2.2.2.1 _)),(h.bN.far (p:=⟨y.rO,v,none⟩) (h.bN.ne_ h.rO (by decide)) _),(h.bS.far (p:=⟨y.rO,v,none⟩) (h.bS.ne_ h.rO (by decide)) _),(h.bZ.far (p:=⟨y.rO,v,none⟩) (h.bZ.ne_ h.rO (by decide)) _),(h.rI.far (p:=⟨y.rO,v,none⟩) (h.rI.ne_ h.rO (by decide)) _),(h.rL.far (p:=⟨y.rO,v,none⟩) (h.rL.ne_ h.rO (by decide)) _),(h.rC.far (p:=⟨y.rO,v,none⟩) (h.rC.ne_ h.rO (by decide)) _),(by have:=h.rO.set_ v (.bool b);rw[zb0]at this;exact this),(h.stk.setCell (p:=⟨y.rO,v,none⟩) (h.svD h.ok.dO) _),(h.siz.setCell (p:=⟨y.rO,v,none⟩) (h.zvD h.ok.dO) _),h.apart⟩
theorem TAt.setS (h:TAt y B D A c root vs ns w s sv zv) {sv2:Value} {l:List Nat} (ho:OwnRow intL w D 3 sv2 l) (hap:∀k,sv2.ownBlock=some k->zv.ownBlock≠some k):TAt y B D A c root vs ns (w.setCell ⟨y.bS,0,none⟩ sv2) {s with stk:=l} sv2 zv:=
 ⟨h.ok,by simp[World.setCell];exact h.hd,(h.xI.far (p:=⟨y.bS,0,none⟩) h.ok.sI.symm _),(h.xL.far (p:=⟨y.bS,0,none⟩) h.ok.sL.symm _),(h.xC.far (p:=⟨y.bS,0,none⟩) h.ok.sC.symm _),(h.xO.far (p:=⟨y.bS,0,none⟩) (h.xO.ne_ h.bS (by decide)) _),(h.xV.far (p:=⟨y.bS,0,none⟩) (h.xV.ne_ h.bS (by decide)) _),(h.xG.far (p:=⟨y.bS,0,none⟩) (h.xG.ne_ h.bS (by decide)) _),(h.at_.below ((Below.refl _ w).setCell (p:=⟨y.bS,0,none⟩) h.ok.lo.2.2.2.2.2.1 _)),(h.bN.far (p:=⟨y.bS,0,none⟩) (h.bN.ne_ h.bS (by decide)) _),(h.bS.set_ 0 _),(h.bZ.far (p:=⟨y.bS,0,none⟩) h.ok.sZ.symm _),(h.rI.far (p:=⟨y.bS,0,none⟩) (h.rI.ne_ h.bS (by decide)) _),(h.rL.far (p:=⟨y.bS,0,none⟩) (h.rL.ne_ h.bS (by decide)) _),(h.rC.far (p:=⟨y.bS,0,none⟩) (h.rC.ne_ h.bS (by decide)) _),(h.rO.far (p:=⟨y.bS,0,none⟩) (h.rO.ne_ h.bS (by decide)) _),(ho.setCell (p:=⟨y.bS,0,none⟩) (fun e=>absurd (show D<=y.bS from(ho.lt _ e).1) (by have:=h.ok.dS;omega)) _),(h.siz.setCell (p:=⟨y.bS,0,none⟩) (h.zvD h.ok.dS) _),hap⟩
theorem zsa (g n c m:Nat) (hm:m<=c) (w:World):(Instr.slice 36 (.slice (some ⟨g,0,none⟩) n c) none (some (.int .i64 (m:Int))) none).run prog w=.ok (.slice (some ⟨g,0,none⟩) m c) w:=by
 obtain⟨b,a,_,_,_⟩:=info_parts infoInt;rw[run_slice_h (P:=prog) 36 3 b underlying36 a (some ⟨g,0,none⟩) n c m hm w];split<;>simp[Addr.add]
theorem OwnRow.shape {α:Type} {L:Lay α} {w:World} {base:Nat} {E:TypeId} {v:Value} {l:List α} (h:OwnRow L w base E v l) (hl:l≠[]):∃g cap,v=.slice (some ⟨g,0,none⟩) l.length cap/\l.length<=cap:=by
 rcases h.2 with⟨_,hn⟩|⟨g,cap,cur,a,hbg,hh,b,hm,hcs,htk⟩
 .grind
 .exact⟨g,cap,a,b⟩
theorem OwnRow.drop1 {α:Type} {L:Lay α} {w:World} {base:Nat} {E:TypeId} {g cap n:Nat} {l:List α} {x:α} (h:OwnRow L w base E (.slice (some ⟨g,0,none⟩) n cap) (l++[x])):OwnRow L w base E (.slice (some ⟨g,0,none⟩) l.length cap) l:=by
 rcases h.2 with⟨f,_⟩|⟨g',cap',b,f,d,j,m,k,e,a⟩
 .cases f
 .injection f with e1 e2 e3
  injection e1 with e1
  injection e1 with e1
  subst e1;subst e3;rw[List.length_append,List.length_cons,List.length_nil]at m a;refine⟨L.all_len l,.inr ⟨g,cap,b,rfl,d,j,by omega,k,e,?_⟩⟩;have i:(b.toList.take ((l.length+(0+1))*L.sz)).take (l.length*L.sz)=(L.all (l++[x])).take (l.length*L.sz):=by rw[a]
  rw[List.take_take,L.all_append]at i;rw[show min (l.length*L.sz) ((l.length+(0+1))*L.sz)=l.length*L.sz from by rw[Nat.add_mul];omega]at i;rw[i,List.take_append_of_le_length (by rw[L.all_len];exact Nat.le_refl _),List.take_of_length_le (by rw[L.all_len];exact Nat.le_refl _)]
theorem OwnRow.off {α:Type} {L:Lay α} {w w2:World} {base:Nat} {E:TypeId} {v:Value} {l:List α} {row:Option Nat} (h:OwnRow L w base E v l) (hg:w.grownBy w2 row) (hne:∀k,v.ownBlock=some k->some k≠row):OwnRow L w2 base E v l:=by
 have b:=h.lt;refine⟨h.1,h.2.imp id ?_⟩;rintro⟨g,a,f,i,d,j,r⟩;have e:v.ownBlock=some g:=by rw[i];rfl
 exact⟨g,a,f,i,d,(hg.block g (b g e).2 (hne g e)).trans j,r⟩
theorem TAt.grownS (h:TAt y B D A c root vs ns w s sv zv) {w2:World} {sv2:Value} {l:List Nat} (ho:OwnRow intL w2 D 3 sv2 l) (hg:w.grownBy w2 sv.ownBlock) (hat:sv2.ownBlock=sv.ownBlock\/sv2.ownBlock=some w.heap.size):
 TAt y B D A c root vs ns (w2.setCell ⟨y.bS,0,none⟩ sv2) {s with stk:=l} sv2 zv:=by
 have f:∀{g:Nat} {t:TypeId} {cs:Array Value},Blk w g t cs->g<D->Blk w2 g t cs:=fun i j=>i.grown hg (fun e=>h.svD j e.symm)
 have a:∀{g:Nat} {t:TypeId} {cs:Array Value},Blk w g t cs->3≠t->Blk w2 g t cs:=fun i j=>i.grown hg (fun e=>zby h.stk i j e.symm)
 have b:Below D w w2:=h.stk.grown_below hg h.hd;have q:OwnRow intL w2 D 3 zv s.sizes:=h.siz.off hg (fun k e d=>h.apart k d.symm e);have o:TAt y B D A c root vs ns w2 {s with stk:=s.stk} sv2 zv\/True:=.inr trivial;clear o;have n:∀k,sv2.ownBlock=some k->zv.ownBlock≠some k:=fun k e d=>by
  rcases hat with h1|h1
  .exact h.apart k (h1.symm.trans e) d
  .have:=(h.siz.lt k d).2;rw[h1]at e;injection e with e
   omega
 have m:=hg.size;exact⟨h.ok,by simp[World.setCell];exact Nat.le_trans h.hd m,((a h.xI (by decide)).far (p:=⟨y.bS,0,none⟩) h.ok.sI.symm _),((a h.xL (by decide)).far (p:=⟨y.bS,0,none⟩) h.ok.sL.symm _),((a h.xC (by decide)).far (p:=⟨y.bS,0,none⟩) h.ok.sC.symm _),((a h.xO (by decide)).far (p:=⟨y.bS,0,none⟩) (h.xO.ne_ h.bS (by decide)) _),((a h.xV (by decide)).far (p:=⟨y.bS,0,none⟩) (h.xV.ne_ h.bS (by decide)) _),((a h.xG (by decide)).far (p:=⟨y.bS,0,none⟩) (h.xG.ne_ h.bS (by decide)) _),(h.at_.below (b.mono h.ok.lo.2.2.2.2.2.2.2)).below ((Below.refl _ w2).setCell (p:=⟨y.bS,0,none⟩) h.ok.lo.2.2.2.2.2.1 _),((f h.bN h.ok.dN).far (p:=⟨y.bS,0,none⟩) (h.bN.ne_ h.bS (by decide)) _),((a h.bS (by decide)).set_ 0 _),((a h.bZ (by decide)).far (p:=⟨y.bS,0,none⟩) h.ok.sZ.symm _),((f h.rI h.ok.dI).far (p:=⟨y.bS,0,none⟩) (h.rI.ne_ h.bS (by decide)) _),((f h.rL h.ok.dL).far (p:=⟨y.bS,0,none⟩) (h.rL.ne_ h.bS (by decide)) _),((f h.rC h.ok.dC).far (p:=⟨y.bS,0,none⟩) (h.rC.ne_ h.bS (by decide)) _),((a h.rO (by decide)).far (p:=⟨y.bS,0,none⟩) (h.rO.ne_ h.bS (by decide)) _),
  (ho.setCell (p:=⟨y.bS,0,none⟩) (fun e=>absurd (show D<=y.bS from(ho.lt _ e).1) (by have:=h.ok.dS;omega)) _),(q.setCell (p:=⟨y.bS,0,none⟩) (h.zvD h.ok.dS) _),n⟩
theorem TAt.grownZ (h:TAt y B D A c root vs ns w s sv zv) {w2:World} {zv2:Value} {l:List Nat} (ho:OwnRow intL w2 D 3 zv2 l) (hg:w.grownBy w2 zv.ownBlock) (hat:zv2.ownBlock=zv.ownBlock\/zv2.ownBlock=some w.heap.size):
 TAt y B D A c root vs ns (w2.setCell ⟨y.bZ,0,none⟩ zv2) {s with sizes:=l} sv zv2:=by
 have f:∀{g:Nat} {t:TypeId} {cs:Array Value},Blk w g t cs->g<D->Blk w2 g t cs:=fun i j=>i.grown hg (fun e=>h.zvD j e.symm)
 have a:∀{g:Nat} {t:TypeId} {cs:Array Value},Blk w g t cs->3≠t->Blk w2 g t cs:=fun i j=>i.grown hg (fun e=>zby h.siz i j e.symm)
 have d:Below D w w2:=h.siz.grown_below hg h.hd;have o:OwnRow intL w2 D 3 sv s.stk:=h.stk.off hg (fun k e b=>h.apart k e b.symm);have n:∀k,sv.ownBlock=some k->zv2.ownBlock≠some k:=fun k e b=>by
  rcases hat with h1|h1
  .exact h.apart k e (h1.symm.trans b)
  .have:=(h.stk.lt k e).2;rw[h1]at b;injection b with b
   omega
 have m:=hg.size;exact⟨h.ok,by simp[World.setCell];exact Nat.le_trans h.hd m,((a h.xI (by decide)).far (p:=⟨y.bZ,0,none⟩) h.ok.zI.symm _),((a h.xL (by decide)).far (p:=⟨y.bZ,0,none⟩) h.ok.zL.symm _),((a h.xC (by decide)).far (p:=⟨y.bZ,0,none⟩) h.ok.zC.symm _),((a h.xO (by decide)).far (p:=⟨y.bZ,0,none⟩) (h.xO.ne_ h.bZ (by decide)) _),((a h.xV (by decide)).far (p:=⟨y.bZ,0,none⟩) (h.xV.ne_ h.bZ (by decide)) _),((a h.xG (by decide)).far (p:=⟨y.bZ,0,none⟩) (h.xG.ne_ h.bZ (by decide)) _),(h.at_.below (d.mono h.ok.lo.2.2.2.2.2.2.2)).below ((Below.refl _ w2).setCell (p:=⟨y.bZ,0,none⟩) h.ok.lo.2.2.2.2.2.2.1 _),((f h.bN h.ok.dN).far (p:=⟨y.bZ,0,none⟩) (h.bN.ne_ h.bZ (by decide)) _),((a h.bS (by decide)).far (p:=⟨y.bZ,0,none⟩) h.ok.sZ _),((a h.bZ (by decide)).set_ 0 _),((f h.rI h.ok.dI).far (p:=⟨y.bZ,0,none⟩) (h.rI.ne_ h.bZ (by decide)) _),((f h.rL h.ok.dL).far (p:=⟨y.bZ,0,none⟩) (h.rL.ne_ h.bZ (by decide)) _),((f h.rC h.ok.dC).far (p:=⟨y.bZ,0,none⟩) (h.rC.ne_ h.bZ (by decide)) _),((a h.rO (by decide)).far (p:=⟨y.bZ,0,none⟩) (h.rO.ne_ h.bZ (by decide)) _),
  (o.setCell (p:=⟨y.bZ,0,none⟩) (h.svD h.ok.dZ) _),(ho.setCell (p:=⟨y.bZ,0,none⟩) (fun e=>absurd (show D<=y.bZ from(ho.lt _ e).1) (by have:=h.ok.dZ;omega)) _),n⟩
end
theorem zvn (s:Gr.Str) (a:Nat) (ha:a=if s.head?=some 45 then 1 else 0):intB s=if a=s.length\/s.length-a>400\/((s.drop a).head?=some 48/\s.length>1)then false else(s.drop a).all Gr.dig:=by
 cases s with
 |nil=>subst ha;decide
 |cons c r=>
  by_cases hc:c=45
  .subst hc;obtain rfl:a=1:=by rw[ha];rfl
   cases r with
   |nil=>decide
   |cons d r=>
    have e:intS (45::d::r)=d::r:=by unfold intS;rw[if_pos ⟨by simp,rfl⟩];rfl
    unfold intB;rw[e];simp only[List.drop_succ_cons,List.drop_zero];by_cases h:(d::r).length>400\/((d::r).head?=some 48/\(45::d::r).length>1)
    .rw[if_pos (.inr h),if_pos (.inr (h.imp (fun h=>by simpa using h) id))]
    .rw[if_neg (by rintro(h1|h1);simp at h1;exact h h1),if_neg (by rintro(h1|h1);simp at h1;exact h (h1.imp (fun h=>by simpa using h) id))]
  .obtain rfl:a=0:=by rw[ha,if_neg (by simp[hc])]
   have e:intS (c::r)=c::r:=by unfold intS;rw[if_neg (by simp[hc])]
   unfold intB;rw[e,List.drop_zero];by_cases h:(c::r).length>400\/((c::r).head?=some 48/\(c::r).length>1)
   .rw[if_pos (.inr h),if_pos (.inr (by simpa using h))]
   .rw[if_neg (by rintro(h1|h1);simp at h1;exact h h1),if_neg (by rintro(h1|h1);simp at h1;exact h (by simpa using h1))]
theorem zkv (c:UInt8) (b:Nat) (hb:c.toNat=b):Gr.dig c=(decide (48<=b) && decide (b<=57)):=by
 subst hb;unfold Gr.dig;rw[Bool.eq_iff_iff];simp[UInt8.le_iff_toNat_le]
theorem all_at {s:Gr.Str} {a k:Nat} (h:k<s.length) (hak:a<=k) (hd:Gr.dig s[k]=false):(s.drop a).all Gr.dig=false:=by
 rw[List.all_eq_false];refine⟨s[k],?_,by rw[hd];decide⟩;have:s[k]=(s.drop a)[k-a]'(by rw[List.length_drop];omega):=by rw[List.getElem_drop];congr 1;omega
 rw[this];exact List.getElem_mem _
theorem ze9 (s:Gr.Str) (hl:s.length<=1073741823) (a:Nat) (ha:a<=s.length) (w:World) (r:Bool) (hr:Hid ((s.drop a).all Gr.dig=r)) {u1 u2 u4 u5 u6 u7 u8 u9 u10 u11 u12 u13 u14 u15 u16 u17 u18 u19 u20 u21 u22 u23 u24 u25 u26 u27 u28 u29 u30 u31 u32 u33 u34 u35 u36 u37 u38 u39 u40 u41 u42 u43 u44 u45 u46 u47 u48 u49 u50 u51:Value}:
 Code.wp prog (tl 4 (f65.body.getD .skip)) (bodyPost prog f65 (fun e w'=>e=.returned (.bool r)/\w=w')) {tmps:=List.toArray (.string ⟨s.toArray⟩::u1::u2::.int .i64 (a:Int)::u4::u5::u6::u7::u8::u9::u10::u11::u12::u13::u14::u15::u16::u17::u18::u19::u20::u21::u22::u23::u24::u25::u26::u27::u28::u29::u30::u31::u32::u33::u34::u35::u36::u37::u38::u39::u40::u41::u42::u43::u44::u45::u46::u47::u48::u49::u50::u51::[]),defers:=[]} w:=by
 generalize hc0:tl 4 (f65.body.getD .skip)=c0;simp only[tl,f65,Option.getD_some]at hc0;subst hc0;go_wp2_with fail;go_loop [4] (fun s4=>∃k:Nat,a<=k/\k<=s.length/\s4=.int .i64 (k:Int)/\Hid (∀j (h:j<s.length),a<=j->j<k->Gr.dig s[j]=true)) (fun s4=>s.length-(intOf s4).toNat)
 case atStart=>exact⟨a,Nat.le_refl _,ha,rfl,hid (fun j _ n t=>by omega)⟩
 case round=>
  obtain⟨k,f,hk,rfl,o⟩:=hrel;by_cases hlt:k<s.length
  .have d:(k:Int)<(s.length:Int):=by omega
   obtain⟨b,m⟩:∃b:Nat,(s[k]'hlt).toNat=b:=⟨_,rfl⟩
   have hbv:(((⟨s.toArray⟩:ByteArray)[k]'(by simpa[ByteArray.size]using hlt)).toNat:Int)=(b:Int):=by rw[<-m];rfl
   have c:=hid (zkv (s[k]'hlt) b m);clear m;by_cases h48:48<=b
   .have l:¬(b:Int)<48:=by omega
    by_cases h57:b<=57
    .have i:¬(57:Int)<(b:Int):=by omega
     go_wp2;go_round
     case rel=>exact⟨k+1,by omega,by omega,by go_num,hid (fun j h n t=>by
      by_cases e:j=k
      .subst e;rw[c.out];simp[h48,h57]
      .exact o.out j h n (by omega))⟩
     case measure=>simp[intOf];omega
    .have i:(57:Int)<(b:Int):=by omega
     have g:Hid (r=false):=hid (by rw[<-hr.out];exact all_at hlt f (by rw[c.out];simp[h57]));go_wp2;go_ret;rw[g.out];exact⟨rfl,rfl⟩
   .have l:(b:Int)<48:=by omega
    have g:Hid (r=false):=hid (by rw[<-hr.out];exact all_at hlt f (by rw[c.out];simp[h48]));go_wp2;go_ret;rw[g.out];exact⟨rfl,rfl⟩
  .have d:¬(k:Int)<(s.length:Int):=by omega
   have g:Hid (r=true):=hid (by
    rw[<-hr.out,List.all_eq_true];intro x p;obtain⟨j,q,rfl⟩:=List.getElem_of_mem p;rw[List.length_drop]at q;rw[List.getElem_drop];exact o.out (a+j) (by omega) (by omega) (by omega))
   go_wp2;go_ret;rw[g.out];exact⟨rfl,rfl⟩
theorem zda (s:Gr.Str) (hl:s.length<=1073741823) (a:Nat) (ha:a<=s.length) (w:World) (r:Bool) (hr:Hid ((if a=s.length\/s.length-a>400\/((s.drop a).head?=some 48/\s.length>1)then false else(s.drop a).all Gr.dig)=r)) {u1 u2 u4 u5 u6 u7 u8 u9 u10 u11 u12 u13 u14 u15 u16 u17 u18 u19 u20 u21 u22 u23 u24 u25 u26 u27 u28 u29 u30 u31 u32 u33 u34 u35 u36 u37 u38 u39 u40 u41 u42 u43 u44 u45 u46 u47 u48 u49 u50 u51:Value}:
 Code.wp prog (tl 3 (f65.body.getD .skip)) (bodyPost prog f65 (fun e w'=>e=.returned (.bool r)/\w=w')) {tmps:=List.toArray (.string ⟨s.toArray⟩::u1::u2::.int .i64 (a:Int)::u4::u5::u6::u7::u8::u9::u10::u11::u12::u13::u14::u15::u16::u17::u18::u19::u20::u21::u22::u23::u24::u25::u26::u27::u28::u29::u30::u31::u32::u33::u34::u35::u36::u37::u38::u39::u40::u41::u42::u43::u44::u45::u46::u47::u48::u49::u50::u51::[]),defers:=[]} w:=by
 generalize hc0:tl 3 (f65.body.getD .skip)=c0;simp only[tl,f65,Option.getD_some]at hc0;subst hc0;by_cases h1:a=s.length
 .have j:((a:Int)==(s.length:Int))=true:=by rw[beq_iff_eq];omega
  have c:Hid (r=false):=hid (by rw[<-hr.out,if_pos (.inl h1)]);clear h1;go_wp2;go_ret;rw[c.out];exact⟨rfl,rfl⟩
 .have j:((a:Int)==(s.length:Int))=false:=by rw[beq_eq_false_iff_ne];omega
  have b:a<s.length:=by omega
  by_cases h2:s.length-a>400
  .have g:(400:Int)<(s.length:Int)-(a:Int):=by omega
   have c:Hid (r=false):=hid (by rw[<-hr.out,if_pos (.inr (.inl h2))]);clear h1 h2;go_wp2;go_ret;rw[c.out];exact⟨rfl,rfl⟩
  .have g:¬(400:Int)<(s.length:Int)-(a:Int):=by omega
   have d:(s.drop a).head?=some s[a]:=by rw[List.head?_drop,List.getElem?_eq_getElem b]
   by_cases h3:s[a]=48
   .have l:=zax s a b _ 48 48 rfl rfl h3;have m:=zar s a b _ 48 48 rfl rfl h3;by_cases h4:s.length>1
    .have f:(1:Int)<(s.length:Int):=by omega
     have c:Hid (r=false):=hid (by rw[<-hr.out,if_pos (.inr (.inr ⟨by rw[d,h3],h4⟩))]);clear h1 h2 h3 d;go_wp2;go_ret;rw[c.out];exact⟨rfl,rfl⟩
    .have f:¬(1:Int)<(s.length:Int):=by omega
     have k:Hid ((s.drop a).all Gr.dig=r):=hid (by rw[<-hr.out,if_neg (by rintro(h|h|⟨_,h⟩);exact h1 h;exact h2 h;exact h4 h)]);clear h1 h2 h3 d;go_upto_if 34 with fail;go_cut [] (fun i=>i=w)
     case first=>
      go_wp2;go_meet;exact rfl
     case rest=>
     subst hcut;refine(‹∀(a:Act) (w_1:World),Code.wp prog _ _ a w_1->_›) _ _ ?_;exact ze9 s hl a ha _ r k
   .have l:=zap s a b _ 48 48 rfl rfl h3;have m:=zas s a b _ 48 48 rfl rfl h3;have k:Hid ((s.drop a).all Gr.dig=r):=hid (by rw[<-hr.out,if_neg (by rintro(h|h|⟨h,_⟩);exact h1 h;exact h2 h;rw[d]at h;injection h with h;exact h3 h)]);clear h1 h2 h3 d;go_upto_if 34 with fail;go_cut [] (fun i=>i=w)
    case first=>
     go_wp2;go_meet;exact rfl
    case rest=>
    subst hcut;refine(‹∀(a:Act) (w_1:World),Code.wp prog _ _ a w_1->_›) _ _ ?_;exact ze9 s hl a ha _ r k
theorem zf0 (s:Gr.Str) (hl:s.length<=1073741823) (w:World):Calls prog 65 #[.string ⟨s.toArray⟩] w fun e w'=>e=.returned (.bool (intB s))/\w=w':=by
 obtain⟨r,g⟩:=ex (intB s)
 rw[g];have b:=fun(a:Nat) ha=>hid ((zvn s a ha).symm.trans g)
 clear g;by_cases h0:0<s.length
 .have h:(0:Int)<(s.length:Int):=by omega
  have f:s.head?=some s[0]:=by rw[List.head?_eq_getElem?,List.getElem?_eq_getElem h0]
  by_cases h45:s[0]=45
  .have i:=zax s 0 h0 _ 45 45 rfl rfl h45;have j:=zar s 0 h0 _ 45 45 rfl rfl h45;have c:=b 1 (by rw[f,h45];rfl);clear b f h45;go_enter func65,ntmps65;go_upto_if 12 with fail;go_cut [3] (fun s3 d=>s3=.int .i64 ((1:Nat):Int)/\d=w)
   case first=>
    go_wp2;go_meet;exact⟨rfl,rfl⟩
   case rest=>
   obtain⟨rfl,rfl⟩:=hcut;refine(‹∀(a:Act) (w_1:World),Code.wp prog _ _ a w_1->_›) _ _ ?_;exact zda s hl 1 (by omega) _ r c
  .have i:=zap s 0 h0 _ 45 45 rfl rfl h45;have j:=zas s 0 h0 _ 45 45 rfl rfl h45;have c:=b 0 (by rw[f,if_neg (by intro e;injection e with e;exact h45 e)]);clear b f h45;go_enter func65,ntmps65;go_upto_if 12 with fail;go_cut [3] (fun s3 d=>s3=.int .i64 ((0:Nat):Int)/\d=w)
   case first=>
    go_wp2;go_meet;exact⟨rfl,rfl⟩
   case rest=>
   obtain⟨rfl,rfl⟩:=hcut;refine(‹∀(a:Act) (w_1:World),Code.wp prog _ _ a w_1->_›) _ _ ?_;exact zda s hl 0 (by omega) _ r c
 .have h:¬(0:Int)<(s.length:Int):=by omega
  have c:=b 0 (by rw[show s=[]from List.eq_nil_of_length_eq_zero (by omega)];rfl);clear b;go_enter func65,ntmps65;go_upto_if 12 with fail;go_cut [3] (fun s3 d=>s3=.int .i64 ((0:Nat):Int)/\d=w)
  case first=>
   go_wp2;go_meet;exact⟨rfl,rfl⟩
  case rest=>
  obtain⟨rfl,rfl⟩:=hcut;refine(‹∀(a:Act) (w_1:World),Code.wp prog _ _ a w_1->_›) _ _ ?_;exact zda s hl 0 (by omega) _ r c
end Go.Proofs.YtpgmfihonmoliaaGreatDoor

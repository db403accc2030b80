import Derived.Test.YtoigpackhninoaaGreatDoorZ01
import Derived.Test.YtoigpackhninoaaGreatDoorGr
import Derived.Deep.RegionHeld3
namespace Go.Proofs.YtoigpackhninoaaGreatDoor
open _root_.Go.Proofs.Tryz
open Go.RowKit
structure SV where
 a:Option Addr
 n:Nat
 c:Nat
def SV.v (x:SV):Value:=.slice x.a x.n x.c
def SV.nil:SV:=⟨none,0,0⟩
structure NV where
 kind:Int
 text:Gr.Str
 ord:Bool
 k:SV
 i:SV
def nodeL:Lay NV:={enc:=fun x=>[.int .i64 x.kind,.string ⟨x.text.toArray⟩,.bool x.ord,x.k.v,x.i.v],sz:=5,len:=fun _=>rfl,one:=fun x u hu=>by simp at hu;rcases hu with rfl|rfl|rfl|rfl|rfl<;>rfl,pos:=by omega}
def intL:Lay Nat:={enc:=fun x=>[.int .i64 (x:Int)],sz:=1,len:=fun _=>rfl,one:=fun x u hu=>by simp at hu;subst hu;rfl,pos:=by omega}
def intI:Lay Int:={enc:=fun x=>[.int .i64 x],sz:=1,len:=fun _=>rfl,one:=fun x u hu=>by simp at hu;subst hu;rfl,pos:=by omega}
theorem zcs {α:Type} (L:Lay α) (t e:TypeId) (z:Value) (bytes:Nat) (hu:prog.underlying t=some (.slice e)) (h:(prog.info? e).map (fun i=>(i.zero,i.size,i.bytes))=some (some z,L.sz,bytes)) (hz:z.cells.size=L.sz) (hb:bytes<=256):SliceT prog L t e bytes:=by
 refine⟨hu,?_,hb⟩;obtain⟨i,h0,h1,h2,h3⟩:=info_parts h;exact⟨i,_,h0,h1,h2,h3,hz⟩
theorem nodeT:SliceT prog nodeL 22 35 80:=zcs nodeL 22 35 (.agg #[.int .i64 0,.string ⟨#[]⟩,.bool false,.slice none 0 0,.slice none 0 0]) 80 underlying22 (by kernel_rfl) rfl (by omega)
theorem intT:SliceT prog intL 33 3 8:=zcs intL 33 3 (.int .i64 0) 8 underlying33 (by kernel_rfl) rfl (by omega)
theorem zag {w:World} {B:Nat} {A:Option Addr} {l:List Nat} {k:Nat} (h:RowAt intL w B A l) (hk:k<l.length):∃ad,A=some ad/\ad.block<B/\w.cell? (ad.add k)=some (.int .i64 (l[k]:Int)):=by
 obtain⟨ad,h1,h2,h3,_⟩:=h.get hk;refine⟨ad,h1,h2,?_⟩;have:=h3 (.int .i64 (l[k]:Int)) rfl;rwa[show k*intL.sz=k from Nat.mul_one k]at this
theorem zk6 {w:World} {B:Nat} {A:Option Addr} {l:List NV} {k:Nat} (h:RowAt nodeL w B A l) (hk:k<l.length):∃ad,A=some ad/\ad.block<B/\w.cell? (ad.add (k*5))=some (.int .i64 l[k].kind)/\
 w.cell? {block:=(ad.add (k*5)).block,off:=(ad.add (k*5)).off+1}=some (.string ⟨l[k].text.toArray⟩)/\w.cell? {block:=(ad.add (k*5)).block,off:=(ad.add (k*5)).off+2}=some (.bool l[k].ord)/\
 w.cell? {block:=(ad.add (k*5)).block,off:=(ad.add (k*5)).off+3}=some (.slice l[k].k.a l[k].k.n l[k].k.c)/\w.cell? {block:=(ad.add (k*5)).block,off:=(ad.add (k*5)).off+4}=some (.slice l[k].i.a l[k].i.n l[k].i.c):=by
 obtain⟨ad,h1,h2,h3,h4⟩:=h.get hk;exact⟨ad,h1,h2,h3 _ rfl,h4 1 _ (by omega) rfl,h4 2 _ (by omega) rfl,h4 3 _ (by omega) rfl,h4 4 _ (by omega) rfl⟩
theorem below_drewN {B:Nat} {a b:World} (h:Below B a b) (n:Nat):Below B a (b.drewN n):=h.trans ⟨rfl,rfl,rfl,Nat.le_refl _,fun _ _=>rfl⟩
structure GAt (w:World) (B:Nat) (A:Option Addr) (vs:List NV) (ns:List Gr.Nd):Prop where
 row:RowAt nodeL w B A vs
 len:vs.length=ns.length
 kind:∀j (h:j<vs.length) (h2:j<ns.length),vs[j].kind=ns[j].kind/\vs[j].text=ns[j].text/\vs[j].ord=ns[j].ord
 nums:∀j (h:j<vs.length) (h2:j<ns.length),RowAt intL w B vs[j].k.a ns[j].keys/\vs[j].k.n=ns[j].keys.length/\RowAt intL w B vs[j].i.a ns[j].items/\vs[j].i.n=ns[j].items.length
theorem GAt.below {w w':World} {B:Nat} {A:Option Addr} {vs:List NV} {ns:List Gr.Nd} (h:GAt w B A vs ns) (hb:Below B w w'):GAt w' B A vs ns:=
 ⟨h.row.below hb,h.len,h.kind,fun j h1 h2=>let⟨a,b,c,d⟩:=h.nums j h1 h2;⟨a.below hb,b,c.below hb,d⟩⟩
theorem GAt.more {w:World} {B B':Nat} {A:Option Addr} {vs:List NV} {ns:List Gr.Nd} (h:GAt w B A vs ns) (hB:B<=B'):GAt w B' A vs ns:=
 ⟨h.row.more hB,h.len,h.kind,fun j h1 h2=>let⟨a,b,c,d⟩:=h.nums j h1 h2;⟨a.more hB,b,c.more hB,d⟩⟩
structure NodeAt (w:World) (B:Nat) (ad:Addr) (n:Gr.Nd) (k i:SV):Prop where
 lt:ad.block<B
 c0:w.cell? ad=some (.int .i64 n.kind)
 c1:w.cell? {block:=ad.block,off:=ad.off+1}=some (.string ⟨n.text.toArray⟩)
 c2:w.cell? {block:=ad.block,off:=ad.off+2}=some (.bool n.ord)
 c3:w.cell? {block:=ad.block,off:=ad.off+3}=some (.slice k.a k.n k.c)
 c4:w.cell? {block:=ad.block,off:=ad.off+4}=some (.slice i.a i.n i.c)
 keys:RowAt intL w B k.a n.keys
 kn:k.n=n.keys.length
 items:RowAt intL w B i.a n.items
 inn:i.n=n.items.length
theorem GAt.node {w:World} {B:Nat} {A:Option Addr} {vs:List NV} {ns:List Gr.Nd} (h:GAt w B A vs ns) {j:Nat} (hj:j<ns.length):∃ad k i,A=some ad/\NodeAt w B (ad.add (j*5)) ns[j] k i:=by
 have hv:j<vs.length:=by rw[h.len];exact hj
 obtain⟨ad,h1,h2,c0,c1,c2,c3,c4⟩:=zk6 h.row hv;obtain⟨k0,k1,k2⟩:=h.kind j hv hj;obtain⟨n1,n2,n3,n4⟩:=h.nums j hv hj;rw[k0]at c0;rw[k1]at c1;rw[k2]at c2;exact⟨ad,vs[j].k,vs[j].i,h1,by rw[zbw];exact h2,c0,c1,c2,c3,c4,n1,n2,n3,n4⟩
structure Kept1 (g:Nat) (w w':World):Prop where
 os:w'.os=w.os
 tape:w'.tape=w.tape
 output:w'.output=w.output
 size:w'.heap.size=w.heap.size
 block:∀k,k≠g->w'.heap[k]? =w.heap[k]?
theorem Kept1.refl (g:Nat) (w:World):Kept1 g w w:=⟨rfl,rfl,rfl,rfl,fun _ _=>rfl⟩
theorem Kept1.trans {g:Nat} {a b c:World} (h:Kept1 g a b) (h2:Kept1 g b c):Kept1 g a c:=
 ⟨h2.os.trans h.os,h2.tape.trans h.tape,h2.output.trans h.output,h2.size.trans h.size,fun k hk=>(h2.block k hk).trans (h.block k hk)⟩
theorem Kept1.drewN {g:Nat} {a b:World} (h:Kept1 g a b) (n:Nat):Kept1 g a (b.drewN n):=h.trans ⟨rfl,rfl,rfl,rfl,fun _ _=>rfl⟩
theorem Kept1.below {g B:Nat} {a b:World} (h:Kept1 g a b) (hB:B<=g):Below B a b:=⟨h.os,h.tape,h.output,Nat.le_of_eq h.size.symm,fun k hk=>h.block k (by omega)⟩
theorem Kept1.blk {g k:Nat} {a b:World} {t:TypeId} {cs:Array Value} (h:Kept1 g a b) (hb:Blk a k t cs) (hk:k≠g):Blk b k t cs:=(h.block k hk).trans hb
theorem Kept1.set {w:World} {g:Nat} (i:Nat) (u:Value):Kept1 g w (w.setCell ⟨g,i,none⟩ u):=⟨rfl,rfl,rfl,by simp[World.setCell],fun _ hk=>Below.heap_setCell _ _ _ _ hk⟩
def bcells (m:List Bool):Array Value:=(m.map Value.bool).toArray
theorem zew (m:List Bool) (i:Nat) (b:Bool):(bcells m).setIfInBounds i (.bool b)=bcells (m.set i b):=by
 simp[bcells,List.map_set]
theorem zau {m:List Bool} {i:Nat} (h:i<m.length):(bcells m)[i]? =some (.bool (m.getD i false)):=by
 simp[bcells,List.getD_eq_getElem?_getD,h]
def icells (m:List Nat):Array Value:=(m.map (fun(x:Nat)=>Value.int .i64 (x:Int))).toArray
theorem zav (m:List Nat) (i x:Nat):(icells m).setIfInBounds i (.int .i64 (x:Int))=icells (m.set i x):=by
 simp[icells,List.map_set]
theorem zad {m:List Nat} {i:Nat} (h:i<m.length):(icells m)[i]? =some (.int .i64 ((m.getD i 0:Nat):Int)):=by
 simp[icells,List.getD_eq_getElem?_getD,h]
theorem za7 {P:Program} (t e:TypeId) (i:TypeInfo) (z:Value) (ht:P.underlying t=some (.slice e)) (hi:P.info? e=some i) (hz:i.zero=some z)
 (kl kc:IntKind) (n c:Nat) (hnc:n<=c) (hbytes:i.bytes*c<=281474976710656) (h63:c<=9223372036854775807) (w:World):
 (Instr.makeSlice t (.int kl (n:Int)) (.int kc (c:Int))).run P w=.ok (.slice (some ⟨w.heap.size,0,none⟩) n c) (w.alloc (.cells (madeCells z.cells (c*i.size)) e)):=by
 have hb:(i.bytes:Int)*(c:Int)<=281474976710656:=by
  omega
 have hr:=run_make (P:=P) w t e i z ht hi hz kl kc n c (by omega) (by omega) hb (by omega);simp only[Int.toNat_natCast]at hr;exact hr
theorem za8 (v:Value) (n:Nat):madeCells #[v] (n*1)=(List.replicate n v).toArray:=by
 apply Array.ext
 ·simp[madeCells]
 ·intro i h1 h2;simp[madeCells,Nat.mod_one]
theorem infoInt:(prog.info? 3).map (fun i=>(i.zero,i.size,i.bytes))=some (some (.int .i64 0),1,8):=by kernel_rfl
theorem infoBool:(prog.info? 4).map (fun i=>(i.zero,i.size,i.bytes))=some (some (.bool false),1,1):=by kernel_rfl
theorem zct (n:Nat) (hn:n<=1073741824) (W:World):(Instr.makeSlice 33 (.int .i64 (n:Int)) (.int .i64 (n:Int))).run prog W=.ok (.slice (some ⟨W.heap.size,0,none⟩) n n) (W.alloc (.cells (icells (List.replicate n 0)) 3)):=by
 obtain⟨i5,hi5,hz5,hs5,hby5⟩:=info_parts infoInt;have:=za7 (P:=prog) 33 3 i5 _ underlying33 hi5 hz5 .i64 .i64 n n (Nat.le_refl _) (by rw[hby5];omega) (by omega) W;rw[hs5]at this;simp only[Value.cells,za8]at this;rw[this];simp[icells]
theorem zc5 (n:Nat) (hn:n<=1073741824) (W:World):(Instr.makeSlice 62 (.int .i64 (n:Int)) (.int .i64 (n:Int))).run prog W=.ok (.slice (some ⟨W.heap.size,0,none⟩) n n) (W.alloc (.cells (bcells (List.replicate n false)) 4)):=by
 obtain⟨i5,hi5,hz5,hs5,hby5⟩:=info_parts infoBool;have:=za7 (P:=prog) 62 4 i5 _ underlying62 hi5 hz5 .i64 .i64 n n (Nat.le_refl _) (by rw[hby5];omega) (by omega) W;rw[hs5]at this;simp only[Value.cells,za8]at this;rw[this];simp[bcells]
def KB (g:Nat) (w w':World):Prop:=za5 w w' (fun k=>k=g)
theorem KB.refl (g:Nat) (w:World):KB g w w:=⟨rfl,rfl,rfl,Nat.le_refl _,fun _ _ _=>rfl⟩
theorem KB.trans {g:Nat} {a b c:World} (h:KB g a b) (h2:KB g b c):KB g a c:=
 ⟨h2.os.trans h.os,h2.tape.trans h.tape,h2.output.trans h.output,Nat.le_trans h.size h2.size,fun k hk hg=>(h2.block k (Nat.lt_of_lt_of_le hk h.size) hg).trans (h.block k hk hg)⟩
theorem KB.of_below {g:Nat} {a b:World} (h:Below a.heap.size a b):KB g a b:=⟨h.os,h.tape,h.output,h.size,fun k hk _=>h.block k hk⟩
theorem KB.of1 {g:Nat} {a b:World} (h:Kept1 g a b):KB g a b:=⟨h.os,h.tape,h.output,Nat.le_of_eq h.size.symm,fun k _ hg=>h.block k hg⟩
theorem KB.alloc {g:Nat} {a b:World} (h:KB g a b) (o:Obj):KB g a (b.alloc o):=h.trans (KB.of_below ((Below.refl _ _).alloc (Nat.le_refl _) o))
theorem KB.drewN {g:Nat} {a b:World} (h:KB g a b) (n:Nat):KB g a (b.drewN n):=h.trans ⟨rfl,rfl,rfl,Nat.le_refl _,fun _ _ _=>rfl⟩
theorem KB.set {g:Nat} {a b:World} (h:KB g a b) (i:Nat) (u:Value):KB g a (b.setCell ⟨g,i,none⟩ u):=h.trans (KB.of1 (Kept1.set i u))
theorem KB.blk {g k:Nat} {a b:World} {t:TypeId} {cs:Array Value} (h:KB g a b) (hb:Blk a k t cs) (hk:k≠g):Blk b k t cs:=(h.block k hb.lt hk).trans hb
theorem KB.below {g B:Nat} {a b:World} (h:KB g a b) (hB:B<=g) (hs:B<=a.heap.size):Below B a b:=⟨h.os,h.tape,h.output,h.size,fun k hk=>h.block k (by omega) (by omega)⟩
def byteL:Lay UInt8:={enc:=fun x=>[.int .u8 (x.toNat:Int)],sz:=1,len:=fun _=>rfl,one:=fun x u hu=>by simp at hu;subst hu;rfl,pos:=by omega}
theorem byteT:SliceT prog byteL 119 5 1:=zcs byteL 119 5 (.int .u8 0) 1 underlying119 (by kernel_rfl) rfl (by omega)
theorem zsw {w:World} {B:Nat} {A:Option Addr} {l:List UInt8} {k:Nat} (h:RowAt byteL w B A l) (hk:k<l.length):∃ad,A=some ad/\ad.block<B/\w.cell? (ad.add k)=some (.int .u8 (l[k].toNat:Int)):=by
 obtain⟨ad,h1,h2,h3,_⟩:=h.get hk;refine⟨ad,h1,h2,?_⟩;have:=h3 (.int .u8 (l[k].toNat:Int)) rfl;rwa[show k*byteL.sz=k from Nat.mul_one k]at this
theorem zgf (a:Option Addr) (n c m:Nat) (hm:m<=c) (w:World):(Instr.slice 119 (.slice a n c) none (some (.int .i64 (m:Int))) none).run prog w=.ok (.slice a m c) w:=by
 obtain⟨i0,z,hi,hz0,hz1,hz2,hz3⟩:=byteT.info;rw[run_slice_h (P:=prog) 119 5 i0 underlying119 hi a n c m hm w];split
 ·rfl
 ·cases a<;>simp[Addr.add]
theorem zar (s:Gr.Str) (k:Nat) (hk:k<s.length) (c d:UInt8) (n:Int) (hn:(d.toNat:Int)=n) (h:s[k]=c) (e:c=d):(((⟨s.toArray⟩:ByteArray)[k]'(by simpa[ByteArray.size]using hk)).toNat:Int)=n:=by
 have:(⟨s.toArray⟩:ByteArray)[k]'(by simpa[ByteArray.size]using hk)=s[k]:=rfl;rw[this,h,e,hn]
theorem zah (s:Gr.Str) (k:Nat) (hk:k<s.length) (c d:UInt8) (n:Int) (hn:(d.toNat:Int)=n) (h:s[k]=c) (e:c≠d):¬(((⟨s.toArray⟩:ByteArray)[k]'(by simpa[ByteArray.size]using hk)).toNat:Int)=n:=by
 have:(⟨s.toArray⟩:ByteArray)[k]'(by simpa[ByteArray.size]using hk)=s[k]:=rfl;rw[this,h,<-hn];exact fun he=>e (UInt8.toNat_inj.1 (by omega))
theorem zaj (s:Gr.Str) (k:Nat) (hk:k<s.length) (c d:UInt8) (n:Int) (hn:(d.toNat:Int)=n) (h:s[k]=c) (e:c=d):((((⟨s.toArray⟩:ByteArray)[k]'(by simpa[ByteArray.size]using hk)).toNat:Int)==n)=true:=by
 simpa using zar s k hk c d n hn h e
theorem zak (s:Gr.Str) (k:Nat) (hk:k<s.length) (c d:UInt8) (n:Int) (hn:(d.toNat:Int)=n) (h:s[k]=c) (e:c≠d):((((⟨s.toArray⟩:ByteArray)[k]'(by simpa[ByteArray.size]using hk)).toNat:Int)==n)=false:=by
 simpa using zah s k hk c d n hn h e
def ucells (l:List UInt8):Array Value:=(l.map (fun(c:UInt8)=>Value.int .u8 (c.toNat:Int))).toArray
theorem zc8 (l:List UInt8) (i:Nat) (x:UInt8):(ucells l).setIfInBounds i (.int .u8 (x.toNat:Int))=ucells (l.set i x):=by
 simp[ucells,List.map_set]
theorem zam (l:List UInt8):(ucells l).toList=byteL.all l:=by
 induction l with
 |nil=>rfl
 |cons x l ih=>
  have e1:(ucells (x::l)).toList=.int .u8 (x.toNat:Int)::(ucells l).toList:=by simp[ucells]
  have e2:byteL.all (x::l)=.int .u8 (x.toNat:Int)::byteL.all l:=rfl;rw[e1,e2,ih]
theorem infoByte:(prog.info? 5).map (fun i=>(i.zero,i.size,i.bytes))=some (some (.int .u8 0),1,1):=by kernel_rfl
theorem zca (n:Nat) (hn:n<=1073741824) (W:World):(Instr.makeSlice 119 (.int .i64 (n:Int)) (.int .i64 (n:Int))).run prog W=.ok (.slice (some ⟨W.heap.size,0,none⟩) n n) (W.alloc (.cells (ucells (List.replicate n 0)) 5)):=by
 obtain⟨i5,hi5,hz5,hs5,hby5⟩:=info_parts infoByte;have:=za7 (P:=prog) 119 5 i5 _ underlying119 hi5 hz5 .i64 .i64 n n (Nat.le_refl _) (by rw[hby5];omega) (by omega) W;rw[hs5]at this;simp only[Value.cells,za8]at this;rw[this];simp[ucells]
theorem RowAt.ofBlk {α:Type} {L:Lay α} {w:World} {g B:Nat} {t:TypeId} {cs:Array Value} {l:List α} (hb:Blk w g t cs) (hc:cs.toList=L.all l) (hg:g<B):RowAt L w B (some ⟨g,0,none⟩) l:=by
 refine⟨L.all_len l,fun _=>⟨_,rfl,hg,fun j u hu=>?_⟩⟩;have e:(⟨g,0,none⟩:Addr).add j=⟨g,j,none⟩:=by unfold Addr.add;split<;>simp_all
 rw[e,hb.cell,<-hu,<-hc];simp
open Gr
open _root_.Go.Lib (hid)
set_option maxRecDepth 100000
set_option maxHeartbeats 16000000
theorem zal (l:List Nat) (k:Nat) (h:k<l.length):l.take (k+1)=l.take k++[l[k]]:=List.take_succ_eq_append_getElem h
structure RV (w:World) (mb bm bg bv:Nat) (A:Option Addr) (c:Nat) (root:Int) (vs:List NV) (ns:List Gr.Nd) (B:Nat):Prop where
 m:Blk w bm 62 #[.slice (some ⟨mb,0,none⟩) ns.length ns.length]
 g:Blk w bg 24 #[.slice A ns.length c,.int .i64 root]
 v:Blk w bv 88 #[.func (.func 63) #[] #[.pointer (some ⟨bm,0,none⟩),.pointer (some ⟨bg,0,none⟩),.pointer (some ⟨bv,0,none⟩)]]
 at_:GAt w B A vs ns
 low:B<=mb
theorem RV.kept {w w':World} {mb bm bg bv:Nat} {A:Option Addr} {c:Nat} {root:Int} {vs:List NV} {ns:List Gr.Nd} {B:Nat} (h:RV w mb bm bg bv A c root vs ns B) {cs:Array Value} (hm:Blk w mb 4 cs) (hk:Kept1 mb w w'):RV w' mb bm bg bv A c root vs ns B:=
 ⟨hk.blk h.m (h.m.ne_ hm (by decide)),hk.blk h.g (h.g.ne_ hm (by decide)),hk.blk h.v (h.v.ne_ hm (by decide)),h.at_.below (hk.below h.low),h.low⟩
theorem zdh (mb bm bg bv n:Nat) (m:List Bool) (a:Nat) (w:World) (h:Blk w bm 62 #[.slice (some ⟨mb,0,none⟩) n n]) (hm:Blk w mb 4 (bcells m)) (hml:m.length=n) (ha:a<n) (_hl:n<=1073741823) (hmk:m.getD a false=true):
 Calls prog 63 #[.int .i64 a,.pointer (some ⟨bm,0,none⟩),.pointer (some ⟨bg,0,none⟩),.pointer (some ⟨bv,0,none⟩)] w fun e w'=>e=.returned (.tuple #[])/\w'=w:=by
 have c1:w.cell? ⟨mb,a,none⟩=some (.bool true):=by rw[hm.cell,zau (by omega),hmk]
 have c2:w.cell? ⟨bm,0,none⟩=some (.slice (some ⟨mb,0,none⟩) n n):=h.cell 0;have haI:(a:Int)<(n:Int):=by omega
 clear hm h hmk;go_enter func63,ntmps63;go_wp2_with fail;refine bodyPost_ret (v:=.tuple #[]) (by simp[results,results63,go_sem]) rfl ?_;exact⟨rfl,rfl⟩
theorem zk7 (mb bm bg bv:Nat) (A:Option Addr) (c:Nat) (root:Int) (vs:List NV) (ns:List Gr.Nd) (B:Nat) (hr:Refs ns) (hl:ns.length<=1073741823) (hks:∀n∈ns,n.keys.length<=1073741823/\n.items.length<=1073741823):
 ∀(f:Nat) (m:List Bool) (a:Nat) (w:World),RV w mb bm bg bv A c root vs ns B->Blk w mb 4 (bcells m)->m.length=ns.length->a<ns.length->unm ns.length m<=f->
 Calls prog 63 #[.int .i64 a,.pointer (some ⟨bm,0,none⟩),.pointer (some ⟨bg,0,none⟩),.pointer (some ⟨bv,0,none⟩)] w fun e w'=>e=.returned (.tuple #[])/\Kept1 mb w w'/\Blk w' mb 4 (bcells (dvisit (Gr.succ ns) f m a)):=by
 intro f
 induction f with
 |zero=>
  intro m a w h hm hml ha hu;have hmk:m.getD a false=true:=by
   cases e:m.getD a false with
   |true=>rfl
   |false=>have:=zfa hml ha e;omega
  refine(zdh mb bm bg bv ns.length m a w h.m hm hml ha hl hmk).mono ?_;rintro e w' ⟨rfl,rfl⟩;exact⟨rfl,Kept1.refl _ _,hm⟩
 |succ f ih=>
  intro m a w h hm hml ha hu;by_cases hmk:m.getD a false=true
  ·refine(zdh mb bm bg bv ns.length m a w h.m hm hml ha hl hmk).mono ?_;rintro e w' ⟨rfl,rfl⟩;refine⟨rfl,Kept1.refl _ _,?_⟩;unfold dvisit;rw[if_pos hmk];exact hm
  ·have hmf:m.getD a false=false:=by simpa using hmk
   have hres:dvisit (Gr.succ ns) (f+1) m a=((ns[a]).keys++(ns[a]).items).foldl (dvisit (Gr.succ ns) f) (m.set a true):=by
    conv=>lhs;unfold dvisit
    rw[if_neg hmk];unfold Gr.succ;rw[List.getElem?_eq_getElem ha]
   rw[hres];obtain⟨n,hn⟩:=ex (ns[a])
   have hnm:n∈ns:=hn▸List.getElem_mem ha;obtain⟨hkl,hil⟩:=hks n hnm;have hkr:∀x∈n.keys,x<ns.length:=fun x hx=>hr n hnm x (List.mem_append_left _ hx)
   have hir:∀x∈n.items,x<ns.length:=fun x hx=>hr n hnm x (List.mem_append_right _ hx)
   obtain⟨m1,hm1⟩:=ex (m.set a true)
   have hu1:unm ns.length m1<=f:=by have:=zfa hml ha hmf;rw[hm1]at this;omega
   have hl1:m1.length=ns.length:=by rw[<-hm1];simp[hml]
   have HF:Hid (∀L:List Nat,(∀x∈L,x<ns.length)->(L.foldl (dvisit (Gr.succ ns) f) m1).length=ns.length/\unm ns.length (L.foldl (dvisit (Gr.succ ns) f) m1)<=f):=hid (fun L hL=>by
    have:=zfb (zbx hr.succ f) L m1 hL hl1 hu1;exact⟨this.len,Nat.le_trans (zp8 this.keep) hu1⟩)
   have c1:w.cell? ⟨mb,a,none⟩=some (.bool false):=by rw[hm.cell,zau (by omega),hmf]
   have c2:w.cell? ⟨bm,0,none⟩=some (.slice (some ⟨mb,0,none⟩) ns.length ns.length):=h.m.cell 0;have pf:∀i,w.frozen? ⟨mb,i,none⟩=false:=hm.frozen;have haI:(a:Int)<(ns.length:Int):=by omega
   have HN:=hid hn;have HM:=hid hm;have H:=hid h;have HM1:=hid hm1;have IH:=hid ih;clear hm h hmk hu hres hn hm1 ih hu1 hmf;go_enter func63,ntmps63;go_upto_region 2 with fail;obtain⟨w1,hw1⟩:=ex (w.setCell ⟨mb,a,none⟩ (.bool true))
   have hb1:Blk w1 mb 4 (bcells m1):=by rw[<-hw1,<-HM1.out,<-zew];exact HM.out.set_ a _
   have hk1:Kept1 mb w w1:=by rw[<-hw1];exact Kept1.set a _
   have h1:=H.out.kept HM.out hk1;rw[hw1];obtain⟨ad,k,i,rfl,hN⟩:=h1.at_.node ha;obtain⟨ka,kn,kc⟩:=k;obtain⟨ia,inn,ic⟩:=i;rw[HN.out]at hN;obtain rfl:kn=n.keys.length:=hN.kn;obtain rfl:inn=n.items.length:=hN.inn;have x3:=hN.c3;have g0:w1.cell? ⟨bg,0,none⟩=some (.slice (some ad) ns.length c):=h1.g.cell 0;have HK1:=hid hk1;have HB1:=hid hb1;have H1:=hid h1;have HKR:Hid (RowAt intL w1 B ka n.keys):=hid hN.keys;have HNI:Hid (w1.cell? {block:=(ad.add (a*5)).block,off:=(ad.add (a*5)).off+4}=some (.slice ia n.items.length ic)/\RowAt intL w1 B ia n.items/\(ad.add (a*5)).block<B):=hid ⟨hN.c4,hN.items,hN.lt⟩;clear hw1 c1 c2 pf hN h1 hk1 hb1;go_upto_region 3 with fail;clear x3 g0;go_loopw [23] (fun s23 wr=>∃k:Nat,k<=n.keys.length/\s23=.int .i64 k/\Hid (Kept1 mb w1 wr/\Blk wr mb 4 (bcells ((n.keys.take k).foldl (dvisit (Gr.succ ns) f) m1)))) (fun s23 _=>n.keys.length-(intOf s23).toNat)
   case atStart=>exact⟨0,by omega,rfl,hid ⟨Kept1.refl _ _,by simpa using HB1.out⟩⟩
   case round=>
    obtain⟨k,hk,rfl,HW⟩:=hrel;have h2:=H1.out.kept HB1.out HW.out.1;by_cases hlt:k<n.keys.length
    ·have hltI:(k:Int)<(n.keys.length:Int):=by omega
     obtain⟨x,hx⟩:=ex (n.keys[k])
     obtain⟨ad2,rfl,_,y0⟩:=zag (HKR.out.below (HW.out.1.below h2.low)) hlt;rw[hx]at y0;have hxm:x∈n.keys:=hx▸List.getElem_mem hlt;have hfo:=HF.out (n.keys.take k) (fun y hy=>hkr y (List.mem_of_mem_take hy));have v0:wr.cell? ⟨bv,0,none⟩=some (.func (.func 63) #[] #[.pointer (some ⟨bm,0,none⟩),.pointer (some ⟨bg,0,none⟩),.pointer (some ⟨bv,0,none⟩)]):=h2.v.cell 0;have HC:=hid (IH.out _ x wr h2 HW.out.2 hfo.1 (hkr x hxm) hfo.2);have HT:Hid ((n.keys.take (k+1)).foldl (dvisit (Gr.succ ns) f) m1=dvisit (Gr.succ ns) f ((n.keys.take k).foldl (dvisit (Gr.succ ns) f) m1) x):=hid (by rw[zal _ _ hlt,List.foldl_append,hx];rfl);clear h2 hxm hfo hx;go_wp2_with fail;refine HC.out.mono ?_;rintro e w5 ⟨rfl,hk5,hb5⟩;have HW5:Hid (Kept1 mb w1 w5/\Blk w5 mb 4 (bcells ((n.keys.take (k+1)).foldl (dvisit (Gr.succ ns) f) m1))):=hid ⟨HW.out.1.trans hk5,by rw[HT.out];exact hb5⟩;clear hk5 hb5;go_wp2;go_roundw
     case rel=>exact⟨k+1,by omega,by go_num,HW5⟩
     case measure=>simp[intOf];omega
    ·have hltI:¬((k:Int)<(n.keys.length:Int)):=by omega
     have hke:k=n.keys.length:=by omega
     obtain⟨m2,hm2⟩:=ex (n.keys.foldl (dvisit (Gr.succ ns) f) m1)
     have HB2:Hid (Kept1 mb w1 wr/\Blk wr mb 4 (bcells m2)):=hid ⟨HW.out.1,by have:=HW.out.2;rw[hke,List.take_length,hm2]at this;exact this⟩;have HF2:Hid (∀L:List Nat,(∀x∈L,x<ns.length)->(L.foldl (dvisit (Gr.succ ns) f) m2).length=ns.length/\unm ns.length (L.foldl (dvisit (Gr.succ ns) f) m2)<=f):=hid (fun L hL=>by
      have:=HF.out (n.keys++L) (fun y hy=>(List.mem_append.1 hy).elim (hkr y) (hL y));rwa[List.foldl_append,hm2]at this)
     have HR:Hid (n.items.foldl (dvisit (Gr.succ ns) f) (n.keys.foldl (dvisit (Gr.succ ns) f) (m.set a true))=n.items.foldl (dvisit (Gr.succ ns) f) m2):=hid (by rw[HM1.out,hm2]);have g0:wr.cell? ⟨bg,0,none⟩=some (.slice (some ad) ns.length c):=h2.g.cell 0;have x4:wr.cell? {block:=(ad.add (a*5)).block,off:=(ad.add (a*5)).off+4}=some (.slice ia n.items.length ic):=by
      rw[(HW.out.1.below h2.low).cell (by exact HNI.out.2.2)];exact HNI.out.1
     clear h2 hke hm2 HW hk;go_upto_region 8 with fail;clear g0 x4;go_loopw [38] (fun s38 wr=>∃k:Nat,k<=n.items.length/\s38=.int .i64 k/\Hid (Kept1 mb w1 wr/\Blk wr mb 4 (bcells ((n.items.take k).foldl (dvisit (Gr.succ ns) f) m2)))) (fun s38 _=>n.items.length-(intOf s38).toNat)
     case atStart=>exact⟨0,by omega,rfl,hid ⟨HB2.out.1,by simpa using HB2.out.2⟩⟩
     case round=>
      clear hltI hlt;obtain⟨k,hk,rfl,HW⟩:=hrel;have h2:=H1.out.kept HB1.out HW.out.1;by_cases hlt:k<n.items.length
      ·have hltI:(k:Int)<(n.items.length:Int):=by omega
       obtain⟨x,hx⟩:=ex (n.items[k])
       obtain⟨ad2,rfl,_,y0⟩:=zag (HNI.out.2.1.below (HW.out.1.below h2.low)) hlt;rw[hx]at y0;have hxm:x∈n.items:=hx▸List.getElem_mem hlt;have hfo:=HF2.out (n.items.take k) (fun y hy=>hir y (List.mem_of_mem_take hy));have v0:wr.cell? ⟨bv,0,none⟩=some (.func (.func 63) #[] #[.pointer (some ⟨bm,0,none⟩),.pointer (some ⟨bg,0,none⟩),.pointer (some ⟨bv,0,none⟩)]):=h2.v.cell 0;have HC:=hid (IH.out _ x wr h2 HW.out.2 hfo.1 (hir x hxm) hfo.2);have HT:Hid ((n.items.take (k+1)).foldl (dvisit (Gr.succ ns) f) m2=dvisit (Gr.succ ns) f ((n.items.take k).foldl (dvisit (Gr.succ ns) f) m2) x):=hid (by rw[zal _ _ hlt,List.foldl_append,hx];rfl);clear h2 hxm hfo hx;go_wp2_with fail;refine HC.out.mono ?_;rintro e w5 ⟨rfl,hk5,hb5⟩;have HW5:Hid (Kept1 mb w1 w5/\Blk w5 mb 4 (bcells ((n.items.take (k+1)).foldl (dvisit (Gr.succ ns) f) m2))):=hid ⟨HW.out.1.trans hk5,by rw[HT.out];exact hb5⟩;clear hk5 hb5;go_wp2;go_roundw
       case rel=>exact⟨k+1,by omega,by go_num,HW5⟩
       case measure=>simp[intOf];omega
      ·have hltI:¬((k:Int)<(n.items.length:Int)):=by omega
       have HFIN:Hid (Kept1 mb w wr/\Blk wr mb 4 (bcells (n.items.foldl (dvisit (Gr.succ ns) f) (n.keys.foldl (dvisit (Gr.succ ns) f) (m.set a true))))):=hid ⟨HK1.out.trans HW.out.1,by
        have:=HW.out.2;rw[show k=n.items.length from by omega,List.take_length]at this;rw[HR.out];exact this⟩
       clear h2;go_wp2_with fail;go_end0;rw[HN.out];exact⟨rfl,HFIN.out⟩
end Go.Proofs.YtoigpackhninoaaGreatDoor

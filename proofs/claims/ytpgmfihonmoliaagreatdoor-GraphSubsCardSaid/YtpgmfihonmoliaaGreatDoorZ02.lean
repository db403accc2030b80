import Derived.Test.YtpgmfihonmoliaaGreatDoorZ01
import Derived.Deep.RegionHeld3
namespace Go.Proofs.YtpgmfihonmoliaaGreatDoor
open _root_.Go.Proofs.Tryz
open Go.RowKit
structure SV where
 a:Option Addr
 n:Nat
 c:Nat
def SV.v (x:SV):Value:=.slice x.a x.n x.c
def SV.nil:SV:=⟨none,0,0⟩
structure NV where
 kind:Int
 text:Gr.Str
 ord:Bool
 k:SV
 i:SV
def nodeL:Lay NV:={enc:=fun x=>[.int .i64 x.kind,.string ⟨x.text.toArray⟩,.bool x.ord,x.k.v,x.i.v],sz:=5,len:=fun _=>rfl,one:=fun x u hu=>by simp at hu;rcases hu with rfl|rfl|rfl|rfl|rfl<;>rfl,pos:=by omega}
def intL:Lay Nat:={enc:=fun x=>[.int .i64 (x:Int)],sz:=1,len:=fun _=>rfl,one:=fun x u hu=>by simp at hu;subst hu;rfl,pos:=by omega}
def intI:Lay Int:={enc:=fun x=>[.int .i64 x],sz:=1,len:=fun _=>rfl,one:=fun x u hu=>by simp at hu;subst hu;rfl,pos:=by omega}
theorem zbz {α:Type} (L:Lay α) (t e:TypeId) (z:Value) (bytes:Nat) (hu:prog.underlying t=some (.slice e)) (h:(prog.info? e).map (fun i=>(i.zero,i.size,i.bytes))=some (some z,L.sz,bytes)) (hz:z.cells.size=L.sz) (hb:bytes<=256):SliceT prog L t e bytes:=by
 refine⟨hu,?_,hb⟩;obtain⟨i,c,a,d,b⟩:=info_parts h;exact⟨i,_,c,a,d,b,hz⟩
theorem nodeT:SliceT prog nodeL 22 38 80:=zbz nodeL 22 38 (.agg #[.int .i64 0,.string ⟨#[]⟩,.bool false,.slice none 0 0,.slice none 0 0]) 80 underlying22 (by kernel_rfl) rfl (by omega)
theorem intT:SliceT prog intL 36 3 8:=zbz intL 36 3 (.int .i64 0) 8 underlying36 (by kernel_rfl) rfl (by omega)
theorem zaf {w:World} {B:Nat} {A:Option Addr} {l:List Nat} {k:Nat} (h:RowAt intL w B A l) (hk:k<l.length):∃ad,A=some ad/\ad.block<B/\w.cell? (ad.add k)=some (.int .i64 (l[k]:Int)):=by
 obtain⟨ad,a,c,b,_⟩:=h.get hk;refine⟨ad,a,c,?_⟩;have:=b (.int .i64 (l[k]:Int)) rfl;rwa[show k*intL.sz=k from Nat.mul_one k]at this
theorem zn4 {w:World} {B:Nat} {A:Option Addr} {l:List NV} {k:Nat} (h:RowAt nodeL w B A l) (hk:k<l.length):∃ad,A=some ad/\ad.block<B/\w.cell? (ad.add (k*5))=some (.int .i64 l[k].kind)/\
 w.cell? {block:=(ad.add (k*5)).block,off:=(ad.add (k*5)).off+1}=some (.string ⟨l[k].text.toArray⟩)/\w.cell? {block:=(ad.add (k*5)).block,off:=(ad.add (k*5)).off+2}=some (.bool l[k].ord)/\
 w.cell? {block:=(ad.add (k*5)).block,off:=(ad.add (k*5)).off+3}=some (.slice l[k].k.a l[k].k.n l[k].k.c)/\w.cell? {block:=(ad.add (k*5)).block,off:=(ad.add (k*5)).off+4}=some (.slice l[k].i.a l[k].i.n l[k].i.c):=by
 obtain⟨ad,d,f,e,b⟩:=h.get hk;exact⟨ad,d,f,e _ rfl,b 1 _ (by omega) rfl,b 2 _ (by omega) rfl,b 3 _ (by omega) rfl,b 4 _ (by omega) rfl⟩
theorem below_drewN {B:Nat} {a b:World} (h:Below B a b) (n:Nat):Below B a (b.drewN n):=h.trans ⟨rfl,rfl,rfl,Nat.le_refl _,fun _ _=>rfl⟩
structure GAt (w:World) (B:Nat) (A:Option Addr) (vs:List NV) (ns:List Gr.Nd):Prop where
 row:RowAt nodeL w B A vs
 len:vs.length=ns.length
 kind:∀j (h:j<vs.length) (h2:j<ns.length),vs[j].kind=ns[j].kind/\vs[j].text=ns[j].text/\vs[j].ord=ns[j].ord
 nums:∀j (h:j<vs.length) (h2:j<ns.length),RowAt intL w B vs[j].k.a ns[j].keys/\vs[j].k.n=ns[j].keys.length/\RowAt intL w B vs[j].i.a ns[j].items/\vs[j].i.n=ns[j].items.length
theorem GAt.below {w w':World} {B:Nat} {A:Option Addr} {vs:List NV} {ns:List Gr.Nd} (h:GAt w B A vs ns) (hb:Below B w w'):GAt w' B A vs ns:=
 ⟨h.row.below hb,h.len,h.kind,fun j e f=>let⟨a,b,c,d⟩:=h.nums j e f;⟨a.below hb,b,c.below hb,d⟩⟩
theorem GAt.more {w:World} {B B':Nat} {A:Option Addr} {vs:List NV} {ns:List Gr.Nd} (h:GAt w B A vs ns) (hB:B<=B'):GAt w B' A vs ns:=
 ⟨h.row.more hB,h.len,h.kind,fun j e f=>let⟨a,b,c,d⟩:=h.nums j e f;⟨a.more hB,b,c.more hB,d⟩⟩
structure NodeAt (w:World) (B:Nat) (ad:Addr) (n:Gr.Nd) (k i:SV):Prop where
 lt:ad.block<B
 c0:w.cell? ad=some (.int .i64 n.kind)
 c1:w.cell? {block:=ad.block,off:=ad.off+1}=some (.string ⟨n.text.toArray⟩)
 c2:w.cell? {block:=ad.block,off:=ad.off+2}=some (.bool n.ord)
 c3:w.cell? {block:=ad.block,off:=ad.off+3}=some (.slice k.a k.n k.c)
 c4:w.cell? {block:=ad.block,off:=ad.off+4}=some (.slice i.a i.n i.c)
 keys:RowAt intL w B k.a n.keys
 kn:k.n=n.keys.length
 items:RowAt intL w B i.a n.items
 inn:i.n=n.items.length
theorem GAt.node {w:World} {B:Nat} {A:Option Addr} {vs:List NV} {ns:List Gr.Nd} (h:GAt w B A vs ns) {j:Nat} (hj:j<ns.length):∃ad k i,A=some ad/\NodeAt w B (ad.add (j*5)) ns[j] k i:=by
 have a:j<vs.length:=by rw[h.len];exact hj
 obtain⟨ad,n,l,d,b,c,p,f⟩:=zn4 h.row a;obtain⟨e,o,m⟩:=h.kind j a hj;obtain⟨s,q,g,r⟩:=h.nums j a hj;rw[e]at d;rw[o]at b;rw[m]at c;exact⟨ad,vs[j].k,vs[j].i,n,by rw[zbe];exact l,d,b,c,p,f,s,q,g,r⟩
structure Kept1 (g:Nat) (w w':World):Prop where
 os:w'.os=w.os
 tape:w'.tape=w.tape
 output:w'.output=w.output
 size:w'.heap.size=w.heap.size
 block:∀k,k≠g->w'.heap[k]? =w.heap[k]?
theorem Kept1.refl (g:Nat) (w:World):Kept1 g w w:=⟨rfl,rfl,rfl,rfl,fun _ _=>rfl⟩
theorem Kept1.trans {g:Nat} {a b c:World} (h:Kept1 g a b) (h2:Kept1 g b c):Kept1 g a c:=
 ⟨h2.os.trans h.os,h2.tape.trans h.tape,h2.output.trans h.output,h2.size.trans h.size,fun k d=>(h2.block k d).trans (h.block k d)⟩
theorem Kept1.below {g B:Nat} {a b:World} (h:Kept1 g a b) (hB:B<=g):Below B a b:=⟨h.os,h.tape,h.output,Nat.le_of_eq h.size.symm,fun k hk=>h.block k (by omega)⟩
theorem Kept1.blk {g k:Nat} {a b:World} {t:TypeId} {cs:Array Value} (h:Kept1 g a b) (hb:Blk a k t cs) (hk:k≠g):Blk b k t cs:=(h.block k hk).trans hb
theorem Kept1.set {w:World} {g:Nat} (i:Nat) (u:Value):Kept1 g w (w.setCell ⟨g,i,none⟩ u):=⟨rfl,rfl,rfl,by simp[World.setCell],fun _ a=>Below.heap_setCell _ _ _ _ a⟩
def bcells (m:List Bool):Array Value:=(m.map Value.bool).toArray
theorem zb0 (m:List Bool) (i:Nat) (b:Bool):(bcells m).setIfInBounds i (.bool b)=bcells (m.set i b):=by
 simp[bcells,List.map_set]
theorem zae {m:List Bool} {i:Nat} (h:i<m.length):(bcells m)[i]? =some (.bool (m.getD i false)):=by
 simp[bcells,List.getD_eq_getElem?_getD,h]
def icells (m:List Nat):Array Value:=(m.map (fun(x:Nat)=>Value.int .i64 (x:Int))).toArray
theorem zam (m:List Nat) (i x:Nat):(icells m).setIfInBounds i (.int .i64 (x:Int))=icells (m.set i x):=by
 simp[icells,List.map_set]
theorem zab {m:List Nat} {i:Nat} (h:i<m.length):(icells m)[i]? =some (.int .i64 ((m.getD i 0:Nat):Int)):=by
 simp[icells,List.getD_eq_getElem?_getD,h]
theorem zbi {P:Program} (t e:TypeId) (i:TypeInfo) (z:Value) (ht:P.underlying t=some (.slice e)) (hi:P.info? e=some i) (hz:i.zero=some z)
 (kl kc:IntKind) (n c:Nat) (hnc:n<=c) (hbytes:i.bytes*c<=281474976710656) (h63:c<=9223372036854775807) (w:World):
 (Instr.makeSlice t (.int kl (n:Int)) (.int kc (c:Int))).run P w=.ok (.slice (some ⟨w.heap.size,0,none⟩) n c) (w.alloc (.cells (madeCells z.cells (c*i.size)) e)):=by
 have b:(i.bytes:Int)*(c:Int)<=281474976710656:=by
  omega
 have a:=run_make (P:=P) w t e i z ht hi hz kl kc n c (by omega) (by omega) b (by omega);simp only[Int.toNat_natCast]at a;exact a
theorem zbj (v:Value) (n:Nat):madeCells #[v] (n*1)=(List.replicate n v).toArray:=by
 apply Array.ext
 .simp[madeCells]
 .intro i h1 h2;simp[madeCells,Nat.mod_one]
theorem infoInt:(prog.info? 3).map (fun i=>(i.zero,i.size,i.bytes))=some (some (.int .i64 0),1,8):=by kernel_rfl
theorem infoBool:(prog.info? 4).map (fun i=>(i.zero,i.size,i.bytes))=some (some (.bool false),1,1):=by kernel_rfl
theorem za3 (n:Nat) (hn:n<=1073741824) (W:World):(Instr.makeSlice 36 (.int .i64 (n:Int)) (.int .i64 (n:Int))).run prog W=.ok (.slice (some ⟨W.heap.size,0,none⟩) n n) (W.alloc (.cells (icells (List.replicate n 0)) 3)):=by
 obtain⟨e,d,b,c,a⟩:=info_parts infoInt;have:=zbi (P:=prog) 36 3 e _ underlying36 d b .i64 .i64 n n (Nat.le_refl _) (by rw[a];omega) (by omega) W;rw[c]at this;simp only[Value.cells,zbj]at this;rw[this];simp[icells]
theorem zbm (n:Nat) (hn:n<=1073741824) (W:World):(Instr.makeSlice 51 (.int .i64 (n:Int)) (.int .i64 (n:Int))).run prog W=.ok (.slice (some ⟨W.heap.size,0,none⟩) n n) (W.alloc (.cells (bcells (List.replicate n false)) 4)):=by
 obtain⟨e,d,b,c,a⟩:=info_parts infoBool;have:=zbi (P:=prog) 51 4 e _ underlying51 d b .i64 .i64 n n (Nat.le_refl _) (by rw[a];omega) (by omega) W;rw[c]at this;simp only[Value.cells,zbj]at this;rw[this];simp[bcells]
def KB (g:Nat) (w w':World):Prop:=za9 w w' (fun k=>k=g)
theorem KB.refl (g:Nat) (w:World):KB g w w:=⟨rfl,rfl,rfl,Nat.le_refl _,fun _ _ _=>rfl⟩
theorem KB.trans {g:Nat} {a b c:World} (h:KB g a b) (h2:KB g b c):KB g a c:=
 ⟨h2.os.trans h.os,h2.tape.trans h.tape,h2.output.trans h.output,Nat.le_trans h.size h2.size,fun k d e=>(h2.block k (Nat.lt_of_lt_of_le d h.size) e).trans (h.block k d e)⟩
theorem KB.of_below {g:Nat} {a b:World} (h:Below a.heap.size a b):KB g a b:=⟨h.os,h.tape,h.output,h.size,fun k c _=>h.block k c⟩
theorem KB.of1 {g:Nat} {a b:World} (h:Kept1 g a b):KB g a b:=⟨h.os,h.tape,h.output,Nat.le_of_eq h.size.symm,fun k _ c=>h.block k c⟩
theorem KB.alloc {g:Nat} {a b:World} (h:KB g a b) (o:Obj):KB g a (b.alloc o):=h.trans (KB.of_below ((Below.refl _ _).alloc (Nat.le_refl _) o))
theorem KB.drewN {g:Nat} {a b:World} (h:KB g a b) (n:Nat):KB g a (b.drewN n):=h.trans ⟨rfl,rfl,rfl,Nat.le_refl _,fun _ _ _=>rfl⟩
theorem KB.set {g:Nat} {a b:World} (h:KB g a b) (i:Nat) (u:Value):KB g a (b.setCell ⟨g,i,none⟩ u):=h.trans (KB.of1 (Kept1.set i u))
theorem KB.blk {g k:Nat} {a b:World} {t:TypeId} {cs:Array Value} (h:KB g a b) (hb:Blk a k t cs) (hk:k≠g):Blk b k t cs:=(h.block k hb.lt hk).trans hb
theorem KB.below {g B:Nat} {a b:World} (h:KB g a b) (hB:B<=g) (hs:B<=a.heap.size):Below B a b:=⟨h.os,h.tape,h.output,h.size,fun k hk=>h.block k (by omega) (by omega)⟩
def byteL:Lay UInt8:={enc:=fun x=>[.int .u8 (x.toNat:Int)],sz:=1,len:=fun _=>rfl,one:=fun x u hu=>by simp at hu;subst hu;rfl,pos:=by omega}
theorem byteT:SliceT prog byteL 80 5 1:=zbz byteL 80 5 (.int .u8 0) 1 underlying80 (by kernel_rfl) rfl (by omega)
theorem zxh {w:World} {B:Nat} {A:Option Addr} {l:List UInt8} {k:Nat} (h:RowAt byteL w B A l) (hk:k<l.length):∃ad,A=some ad/\ad.block<B/\w.cell? (ad.add k)=some (.int .u8 (l[k].toNat:Int)):=by
 obtain⟨ad,a,c,b,_⟩:=h.get hk;refine⟨ad,a,c,?_⟩;have:=b (.int .u8 (l[k].toNat:Int)) rfl;rwa[show k*byteL.sz=k from Nat.mul_one k]at this
theorem zhs (a:Option Addr) (n c m:Nat) (hm:m<=c) (w:World):(Instr.slice 80 (.slice a n c) none (some (.int .i64 (m:Int))) none).run prog w=.ok (.slice a m c) w:=by
 obtain⟨d,z,b,hz0,hz1,hz2,hz3⟩:=byteT.info;rw[run_slice_h (P:=prog) 80 5 d underlying80 b a n c m hm w];split
 .rfl
 .cases a<;>simp[Addr.add]
theorem zax (s:Gr.Str) (k:Nat) (hk:k<s.length) (c d:UInt8) (n:Int) (hn:(d.toNat:Int)=n) (h:s[k]=c) (e:c=d):(((⟨s.toArray⟩:ByteArray)[k]'(by simpa[ByteArray.size]using hk)).toNat:Int)=n:=by
 have:(⟨s.toArray⟩:ByteArray)[k]'(by simpa[ByteArray.size]using hk)=s[k]:=rfl;rw[this,h,e,hn]
theorem zap (s:Gr.Str) (k:Nat) (hk:k<s.length) (c d:UInt8) (n:Int) (hn:(d.toNat:Int)=n) (h:s[k]=c) (e:c≠d):¬(((⟨s.toArray⟩:ByteArray)[k]'(by simpa[ByteArray.size]using hk)).toNat:Int)=n:=by
 have:(⟨s.toArray⟩:ByteArray)[k]'(by simpa[ByteArray.size]using hk)=s[k]:=rfl;rw[this,h,<-hn];exact fun he=>e (UInt8.toNat_inj.1 (by omega))
theorem zar (s:Gr.Str) (k:Nat) (hk:k<s.length) (c d:UInt8) (n:Int) (hn:(d.toNat:Int)=n) (h:s[k]=c) (e:c=d):((((⟨s.toArray⟩:ByteArray)[k]'(by simpa[ByteArray.size]using hk)).toNat:Int)==n)=true:=by
 simpa using zax s k hk c d n hn h e
theorem zas (s:Gr.Str) (k:Nat) (hk:k<s.length) (c d:UInt8) (n:Int) (hn:(d.toNat:Int)=n) (h:s[k]=c) (e:c≠d):((((⟨s.toArray⟩:ByteArray)[k]'(by simpa[ByteArray.size]using hk)).toNat:Int)==n)=false:=by
 simpa using zap s k hk c d n hn h e
def ucells (l:List UInt8):Array Value:=(l.map (fun(c:UInt8)=>Value.int .u8 (c.toNat:Int))).toArray
theorem zdx (l:List UInt8) (i:Nat) (x:UInt8):(ucells l).setIfInBounds i (.int .u8 (x.toNat:Int))=ucells (l.set i x):=by
 simp[ucells,List.map_set]
theorem zat (l:List UInt8):(ucells l).toList=byteL.all l:=by
 induction l with
 |nil=>rfl
 |cons x l ih=>
  have b:(ucells (x::l)).toList=.int .u8 (x.toNat:Int)::(ucells l).toList:=by simp[ucells]
  have a:byteL.all (x::l)=.int .u8 (x.toNat:Int)::byteL.all l:=rfl;rw[b,a,ih]
theorem infoByte:(prog.info? 5).map (fun i=>(i.zero,i.size,i.bytes))=some (some (.int .u8 0),1,1):=by kernel_rfl
theorem zcu (n:Nat) (hn:n<=1073741824) (W:World):(Instr.makeSlice 80 (.int .i64 (n:Int)) (.int .i64 (n:Int))).run prog W=.ok (.slice (some ⟨W.heap.size,0,none⟩) n n) (W.alloc (.cells (ucells (List.replicate n 0)) 5)):=by
 obtain⟨e,d,b,c,a⟩:=info_parts infoByte;have:=zbi (P:=prog) 80 5 e _ underlying80 d b .i64 .i64 n n (Nat.le_refl _) (by rw[a];omega) (by omega) W;rw[c]at this;simp only[Value.cells,zbj]at this;rw[this];simp[ucells]
theorem RowAt.ofBlk {α:Type} {L:Lay α} {w:World} {g B:Nat} {t:TypeId} {cs:Array Value} {l:List α} (hb:Blk w g t cs) (hc:cs.toList=L.all l) (hg:g<B):RowAt L w B (some ⟨g,0,none⟩) l:=by
 refine⟨L.all_len l,fun _=>⟨_,rfl,hg,fun j u a=>?_⟩⟩;have e:(⟨g,0,none⟩:Addr).add j=⟨g,j,none⟩:=by unfold Addr.add;split<;>simp_all
 rw[e,hb.cell,<-a,<-hc];simp
open Gr
open _root_.Go.Lib (hid)
set_option maxRecDepth 100000
set_option maxHeartbeats 16000000
theorem zai (l:List Nat) (k:Nat) (h:k<l.length):l.take (k+1)=l.take k++[l[k]]:=List.take_succ_eq_append_getElem h
structure RV (w:World) (mb bm bg bv:Nat) (A:Option Addr) (c:Nat) (root:Int) (vs:List NV) (ns:List Gr.Nd) (B:Nat):Prop where
 m:Blk w bm 51 #[.slice (some ⟨mb,0,none⟩) ns.length ns.length]
 g:Blk w bg 24 #[.slice A ns.length c,.int .i64 root]
 v:Blk w bv 74 #[.func (.func 48) #[] #[.pointer (some ⟨bm,0,none⟩),.pointer (some ⟨bg,0,none⟩),.pointer (some ⟨bv,0,none⟩)]]
 at_:GAt w B A vs ns
 low:B<=mb
theorem RV.kept {w w':World} {mb bm bg bv:Nat} {A:Option Addr} {c:Nat} {root:Int} {vs:List NV} {ns:List Gr.Nd} {B:Nat} (h:RV w mb bm bg bv A c root vs ns B) {cs:Array Value} (hm:Blk w mb 4 cs) (hk:Kept1 mb w w'):RV w' mb bm bg bv A c root vs ns B:=
 ⟨hk.blk h.m (h.m.ne_ hm (by decide)),hk.blk h.g (h.g.ne_ hm (by decide)),hk.blk h.v (h.v.ne_ hm (by decide)),h.at_.below (hk.below h.low),h.low⟩
theorem zd8 (mb bm bg bv n:Nat) (m:List Bool) (a:Nat) (w:World) (h:Blk w bm 51 #[.slice (some ⟨mb,0,none⟩) n n]) (hm:Blk w mb 4 (bcells m)) (hml:m.length=n) (ha:a<n) (_hl:n<=1073741823) (hmk:m.getD a false=true):
 Calls prog 48 #[.int .i64 a,.pointer (some ⟨bm,0,none⟩),.pointer (some ⟨bg,0,none⟩),.pointer (some ⟨bv,0,none⟩)] w fun e w'=>e=.returned (.tuple #[])/\w'=w:=by
 have c1:w.cell? ⟨mb,a,none⟩=some (.bool true):=by rw[hm.cell,zae (by omega),hmk]
 have c2:w.cell? ⟨bm,0,none⟩=some (.slice (some ⟨mb,0,none⟩) n n):=h.cell 0;have haI:(a:Int)<(n:Int):=by omega
 clear hm h hmk;go_enter func48,ntmps48;go_wp2_with fail;refine bodyPost_ret (v:=.tuple #[]) (by simp[results,results48,go_sem]) rfl ?_;exact⟨rfl,rfl⟩
theorem zn5 (mb bm bg bv:Nat) (A:Option Addr) (c:Nat) (root:Int) (vs:List NV) (ns:List Gr.Nd) (B:Nat) (hr:Refs ns) (hl:ns.length<=1073741823) (hks:∀n∈ns,n.keys.length<=1073741823/\n.items.length<=1073741823):
 ∀(f:Nat) (m:List Bool) (a:Nat) (w:World),RV w mb bm bg bv A c root vs ns B->Blk w mb 4 (bcells m)->m.length=ns.length->a<ns.length->unm ns.length m<=f->
 Calls prog 48 #[.int .i64 a,.pointer (some ⟨bm,0,none⟩),.pointer (some ⟨bg,0,none⟩),.pointer (some ⟨bv,0,none⟩)] w fun e w'=>e=.returned (.tuple #[])/\Kept1 mb w w'/\Blk w' mb 4 (bcells (dvisit (Gr.succ ns) f m a)):=by
 intro f
 induction f with
 |zero=>
  intro m a w h E o I hu;have b:m.getD a false=true:=by
   cases e:m.getD a false with
   |true=>rfl
   |false=>have:=zge o I e;omega
  refine(zd8 mb bm bg bv ns.length m a w h.m E o I hl b).mono ?_;rintro e w' ⟨rfl,rfl⟩;exact⟨rfl,Kept1.refl _ _,E⟩
 |succ f ih=>
  intro m a w h E o I hu;by_cases b:m.getD a false=true
  .refine(zd8 mb bm bg bv ns.length m a w h.m E o I hl b).mono ?_;rintro e w' ⟨rfl,rfl⟩;refine⟨rfl,Kept1.refl _ _,?_⟩;unfold dvisit;rw[if_pos b];exact E
  .have P:m.getD a false=false:=by simpa using b
   have J:dvisit (Gr.succ ns) (f+1) m a=((ns[a]).keys++(ns[a]).items).foldl (dvisit (Gr.succ ns) f) (m.set a true):=by
    conv=>lhs;unfold dvisit
    rw[if_neg b];unfold Gr.succ;rw[List.getElem?_eq_getElem I]
   rw[J];obtain⟨n,hn⟩:=ex (ns[a])
   have Q:n∈ns:=hn▸List.getElem_mem I;obtain⟨hkl,hil⟩:=hks n Q;have R:∀x∈n.keys,x<ns.length:=fun x q=>hr n Q x (List.mem_append_left _ q)
   have X:∀x∈n.items,x<ns.length:=fun x q=>hr n Q x (List.mem_append_right _ q)
   obtain⟨t,G⟩:=ex (m.set a true)
   have U:unm ns.length t<=f:=by have:=zge o I P;rw[G]at this;omega
   have ac:t.length=ns.length:=by rw[<-G];simp[o]
   have HF:Hid (∀L:List Nat,(∀x∈L,x<ns.length)->(L.foldl (dvisit (Gr.succ ns) f) t).length=ns.length/\unm ns.length (L.foldl (dvisit (Gr.succ ns) f) t)<=f):=hid (fun L hL=>by
    have:=zeq (zbq hr.succ f) L t hL ac U;exact⟨this.len,Nat.le_trans (zud this.keep) U⟩)
   have c1:w.cell? ⟨mb,a,none⟩=some (.bool false):=by rw[E.cell,zae (by omega),P]
   have c2:w.cell? ⟨bm,0,none⟩=some (.slice (some ⟨mb,0,none⟩) ns.length ns.length):=h.m.cell 0;have pf:∀i,w.frozen? ⟨mb,i,none⟩=false:=E.frozen;have haI:(a:Int)<(ns.length:Int):=by omega
   have HN:=hid hn;have HM:=hid E;have H:=hid h;have Y:=hid G;have IH:=hid ih;clear E h b hu J hn G ih U P;go_enter func48,ntmps48;go_upto_region 2 with fail;obtain⟨r,F⟩:=ex (w.setCell ⟨mb,a,none⟩ (.bool true))
   have ab:Blk r mb 4 (bcells t):=by rw[<-F,<-Y.out,<-zb0];exact HM.out.set_ a _
   have T:Kept1 mb w r:=by rw[<-F];exact Kept1.set a _
   have h1:=H.out.kept HM.out T;rw[F];obtain⟨O,k,i,rfl,C⟩:=h1.at_.node I;obtain⟨ka,kn,kc⟩:=k;obtain⟨ia,af,ic⟩:=i;rw[HN.out]at C;obtain rfl:kn=n.keys.length:=C.kn;obtain rfl:af=n.items.length:=C.inn;have x3:=C.c3;have g0:r.cell? ⟨bg,0,none⟩=some (.slice (some O) ns.length c):=h1.g.cell 0;have ai:=hid T;have M:=hid ab;have H1:=hid h1;have ag:Hid (RowAt intL r B ka n.keys):=hid C.keys;have N:Hid (r.cell? {block:=(O.add (a*5)).block,off:=(O.add (a*5)).off+4}=some (.slice ia n.items.length ic)/\RowAt intL r B ia n.items/\(O.add (a*5)).block<B):=hid ⟨C.c4,C.items,C.lt⟩;clear F c1 c2 pf C h1 T ab;go_upto_region 3 with fail;clear x3 g0;go_loopw [23] (fun s23 wr=>∃k:Nat,k<=n.keys.length/\s23=.int .i64 k/\Hid (Kept1 mb r wr/\Blk wr mb 4 (bcells ((n.keys.take k).foldl (dvisit (Gr.succ ns) f) t)))) (fun s23 _=>n.keys.length-(intOf s23).toNat)
   case atStart=>exact⟨0,by omega,rfl,hid ⟨Kept1.refl _ _,by simpa using M.out⟩⟩
   case round=>
    obtain⟨k,hk,rfl,j⟩:=hrel;have p:=H1.out.kept M.out j.out.1;by_cases hlt:k<n.keys.length
    .have l:(k:Int)<(n.keys.length:Int):=by omega
     obtain⟨x,q⟩:=ex (n.keys[k])
     obtain⟨ah,rfl,_,y0⟩:=zaf (ag.out.below (j.out.1.below p.low)) hlt;rw[q]at y0;have u:x∈n.keys:=q▸List.getElem_mem hlt;have d:=HF.out (n.keys.take k) (fun y Z=>R y (List.mem_of_mem_take Z));have v0:wr.cell? ⟨bv,0,none⟩=some (.func (.func 48) #[] #[.pointer (some ⟨bm,0,none⟩),.pointer (some ⟨bg,0,none⟩),.pointer (some ⟨bv,0,none⟩)]):=p.v.cell 0;have HC:=hid (IH.out _ x wr p j.out.2 d.1 (R x u) d.2);have HT:Hid ((n.keys.take (k+1)).foldl (dvisit (Gr.succ ns) f) t=dvisit (Gr.succ ns) f ((n.keys.take k).foldl (dvisit (Gr.succ ns) f) t) x):=hid (by rw[zai _ _ hlt,List.foldl_append,q];rfl);clear p u d q;go_wp2_with fail;refine HC.out.mono ?_;rintro e w5 ⟨rfl,z,s⟩;have S:Hid (Kept1 mb r w5/\Blk w5 mb 4 (bcells ((n.keys.take (k+1)).foldl (dvisit (Gr.succ ns) f) t))):=hid ⟨j.out.1.trans z,by rw[HT.out];exact s⟩;clear z s;go_wp2;go_roundw
     case rel=>exact⟨k+1,by omega,by go_num,S⟩
     case measure=>simp[intOf];omega
    .have l:¬((k:Int)<(n.keys.length:Int)):=by omega
     have V:k=n.keys.length:=by omega
     obtain⟨K,D⟩:=ex (n.keys.foldl (dvisit (Gr.succ ns) f) t)
     have W:Hid (Kept1 mb r wr/\Blk wr mb 4 (bcells K)):=hid ⟨j.out.1,by have:=j.out.2;rw[V,List.take_length,D]at this;exact this⟩;have ae:Hid (∀L:List Nat,(∀x∈L,x<ns.length)->(L.foldl (dvisit (Gr.succ ns) f) K).length=ns.length/\unm ns.length (L.foldl (dvisit (Gr.succ ns) f) K)<=f):=hid (fun L hL=>by
      have:=HF.out (n.keys++L) (fun y Z=>(List.mem_append.1 Z).elim (R y) (hL y));rwa[List.foldl_append,D]at this)
     have HR:Hid (n.items.foldl (dvisit (Gr.succ ns) f) (n.keys.foldl (dvisit (Gr.succ ns) f) (m.set a true))=n.items.foldl (dvisit (Gr.succ ns) f) K):=hid (by rw[Y.out,D]);have g0:wr.cell? ⟨bg,0,none⟩=some (.slice (some O) ns.length c):=p.g.cell 0;have x4:wr.cell? {block:=(O.add (a*5)).block,off:=(O.add (a*5)).off+4}=some (.slice ia n.items.length ic):=by
      rw[(j.out.1.below p.low).cell (by exact N.out.2.2)];exact N.out.1
     clear p V D j hk;go_upto_region 8 with fail;clear g0 x4;go_loopw [38] (fun s38 wr=>∃k:Nat,k<=n.items.length/\s38=.int .i64 k/\Hid (Kept1 mb r wr/\Blk wr mb 4 (bcells ((n.items.take k).foldl (dvisit (Gr.succ ns) f) K)))) (fun s38 _=>n.items.length-(intOf s38).toNat)
     case atStart=>exact⟨0,by omega,rfl,hid ⟨W.out.1,by simpa using W.out.2⟩⟩
     case round=>
      clear l hlt;obtain⟨k,hk,rfl,j⟩:=hrel;have p:=H1.out.kept M.out j.out.1;by_cases hlt:k<n.items.length
      .have l:(k:Int)<(n.items.length:Int):=by omega
       obtain⟨x,q⟩:=ex (n.items[k])
       obtain⟨ah,rfl,_,y0⟩:=zaf (N.out.2.1.below (j.out.1.below p.low)) hlt;rw[q]at y0;have u:x∈n.items:=q▸List.getElem_mem hlt;have d:=ae.out (n.items.take k) (fun y Z=>X y (List.mem_of_mem_take Z));have v0:wr.cell? ⟨bv,0,none⟩=some (.func (.func 48) #[] #[.pointer (some ⟨bm,0,none⟩),.pointer (some ⟨bg,0,none⟩),.pointer (some ⟨bv,0,none⟩)]):=p.v.cell 0;have HC:=hid (IH.out _ x wr p j.out.2 d.1 (X x u) d.2);have HT:Hid ((n.items.take (k+1)).foldl (dvisit (Gr.succ ns) f) K=dvisit (Gr.succ ns) f ((n.items.take k).foldl (dvisit (Gr.succ ns) f) K) x):=hid (by rw[zai _ _ hlt,List.foldl_append,q];rfl);clear p u d q;go_wp2_with fail;refine HC.out.mono ?_;rintro e w5 ⟨rfl,z,s⟩;have S:Hid (Kept1 mb r w5/\Blk w5 mb 4 (bcells ((n.items.take (k+1)).foldl (dvisit (Gr.succ ns) f) K))):=hid ⟨j.out.1.trans z,by rw[HT.out];exact s⟩;clear z s;go_wp2;go_roundw
       case rel=>exact⟨k+1,by omega,by go_num,S⟩
       case measure=>simp[intOf];omega
      .have l:¬((k:Int)<(n.items.length:Int)):=by omega
       have aa:Hid (Kept1 mb w wr/\Blk wr mb 4 (bcells (n.items.foldl (dvisit (Gr.succ ns) f) (n.keys.foldl (dvisit (Gr.succ ns) f) (m.set a true))))):=hid ⟨ai.out.trans j.out.1,by
        have:=j.out.2;rw[show k=n.items.length from by omega,List.take_length]at this;rw[HR.out];exact this⟩
       clear p;go_wp2_with fail;go_end0;rw[HN.out];exact⟨rfl,aa.out⟩
end Go.Proofs.YtpgmfihonmoliaaGreatDoor

/- Graphs in memory. A region that draws its order, whose operations read and whose calls make memory: one walk in the order of the text (the library's law on a class of worlds, at the class of the worlds that have grown above B); the same with a tail that runs in one order. A body without its first statements. -/
import Derived.Test.YtoigpackhninoaaGreatDoorZ01
import Derived.Test.YtoigpackhninoaaGreatDoorGr
import Derived.Lib.Hide
import Derived.BigQuiet
import Derived.StillTail
namespace Go.Proofs.YtoigpackhninoaaGreatDoor
open Go.RowKit
structure SV where
 a:Option Addr
 n:Nat
 c:Nat
def SV.v (x:SV):Value:=.slice x.a x.n x.c
def SV.nil:SV:=⟨none,0,0⟩
structure NV where
 kind:Int
 text:Gr.Str
 ord:Bool
 k:SV
 i:SV
def nodeL:Lay NV:={enc:=fun x=>[.int .i64 x.kind,.string ⟨x.text.toArray⟩,.bool x.ord,x.k.v,x.i.v],sz:=5,len:=fun _=>rfl,one:=fun x u hu=>by simp at hu;rcases hu with rfl|rfl|rfl|rfl|rfl<;>rfl,pos:=by omega}
def intL:Lay Nat:={enc:=fun x=>[.int .i64 (x:Int)],sz:=1,len:=fun _=>rfl,one:=fun x u hu=>by simp at hu;subst hu;rfl,pos:=by omega}
def intI:Lay Int:={enc:=fun x=>[.int .i64 x],sz:=1,len:=fun _=>rfl,one:=fun x u hu=>by simp at hu;subst hu;rfl,pos:=by omega}
theorem sliceT_of {α:Type} (L:Lay α) (t e:TypeId) (z:Value) (bytes:Nat) (hu:Tryz.prog.underlying t=some (.slice e)) (h:(Tryz.prog.info? e).map (fun i=>(i.zero,i.size,i.bytes))=some (some z,L.sz,bytes)) (hz:z.cells.size=L.sz) (hb:bytes<=256):SliceT Tryz.prog L t e bytes:=by
 refine⟨hu,?_,hb⟩;obtain⟨i,h0,h1,h2,h3⟩:=info_parts h;exact⟨i,_,h0,h1,h2,h3,hz⟩
theorem nodeT:SliceT Tryz.prog nodeL 22 35 80:=sliceT_of nodeL 22 35 (.agg #[.int .i64 0,.string ⟨#[]⟩,.bool false,.slice none 0 0,.slice none 0 0]) 80 Tryz.underlying22 (by kernel_rfl) rfl (by omega)
theorem intT:SliceT Tryz.prog intL 33 3 8:=sliceT_of intL 33 3 (.int .i64 0) 8 Tryz.underlying33 (by kernel_rfl) rfl (by omega)
theorem int_at {w:World} {B:Nat} {A:Option Addr} {l:List Nat} {k:Nat} (h:RowAt intL w B A l) (hk:k<l.length):∃ad,A=some ad/\ad.block<B/\w.cell? (ad.add k)=some (.int .i64 (l[k]:Int)):=by
 obtain⟨ad,h1,h2,h3,_⟩:=h.get hk;refine⟨ad,h1,h2,?_⟩;have:=h3 (.int .i64 (l[k]:Int)) rfl;rwa[show k*intL.sz=k from Nat.mul_one k]at this
theorem node_at {w:World} {B:Nat} {A:Option Addr} {l:List NV} {k:Nat} (h:RowAt nodeL w B A l) (hk:k<l.length):∃ad,A=some ad/\ad.block<B/\w.cell? (ad.add (k*5))=some (.int .i64 l[k].kind)/\
 w.cell? {block:=(ad.add (k*5)).block,off:=(ad.add (k*5)).off+1}=some (.string ⟨l[k].text.toArray⟩)/\w.cell? {block:=(ad.add (k*5)).block,off:=(ad.add (k*5)).off+2}=some (.bool l[k].ord)/\
 w.cell? {block:=(ad.add (k*5)).block,off:=(ad.add (k*5)).off+3}=some (.slice l[k].k.a l[k].k.n l[k].k.c)/\w.cell? {block:=(ad.add (k*5)).block,off:=(ad.add (k*5)).off+4}=some (.slice l[k].i.a l[k].i.n l[k].i.c):=by
 obtain⟨ad,h1,h2,h3,h4⟩:=h.get hk;exact⟨ad,h1,h2,h3 _ rfl,h4 1 _ (by omega) rfl,h4 2 _ (by omega) rfl,h4 3 _ (by omega) rfl,h4 4 _ (by omega) rfl⟩
theorem below_drewN {B:Nat} {a b:World} (h:Below B a b) (n:Nat):Below B a (b.drewN n):=h.trans ⟨rfl,rfl,rfl,Nat.le_refl _,fun _ _=>rfl⟩
structure GAt (w:World) (B:Nat) (A:Option Addr) (vs:List NV) (ns:List Gr.Nd):Prop where
 row:RowAt nodeL w B A vs
 len:vs.length=ns.length
 kind:∀j (h:j<vs.length) (h2:j<ns.length),vs[j].kind=ns[j].kind/\vs[j].text=ns[j].text/\vs[j].ord=ns[j].ord
 nums:∀j (h:j<vs.length) (h2:j<ns.length),RowAt intL w B vs[j].k.a ns[j].keys/\vs[j].k.n=ns[j].keys.length/\RowAt intL w B vs[j].i.a ns[j].items/\vs[j].i.n=ns[j].items.length
theorem GAt.below {w w':World} {B:Nat} {A:Option Addr} {vs:List NV} {ns:List Gr.Nd} (h:GAt w B A vs ns) (hb:Below B w w'):GAt w' B A vs ns:=
 ⟨h.row.below hb,h.len,h.kind,fun j h1 h2=>let⟨a,b,c,d⟩:=h.nums j h1 h2;⟨a.below hb,b,c.below hb,d⟩⟩
theorem GAt.more {w:World} {B B':Nat} {A:Option Addr} {vs:List NV} {ns:List Gr.Nd} (h:GAt w B A vs ns) (hB:B<=B'):GAt w B' A vs ns:=
 ⟨h.row.more hB,h.len,h.kind,fun j h1 h2=>let⟨a,b,c,d⟩:=h.nums j h1 h2;⟨a.more hB,b,c.more hB,d⟩⟩
structure NodeAt (w:World) (B:Nat) (ad:Addr) (n:Gr.Nd) (k i:SV):Prop where
 lt:ad.block<B
 c0:w.cell? ad=some (.int .i64 n.kind)
 c1:w.cell? {block:=ad.block,off:=ad.off+1}=some (.string ⟨n.text.toArray⟩)
 c2:w.cell? {block:=ad.block,off:=ad.off+2}=some (.bool n.ord)
 c3:w.cell? {block:=ad.block,off:=ad.off+3}=some (.slice k.a k.n k.c)
 c4:w.cell? {block:=ad.block,off:=ad.off+4}=some (.slice i.a i.n i.c)
 keys:RowAt intL w B k.a n.keys
 kn:k.n=n.keys.length
 items:RowAt intL w B i.a n.items
 inn:i.n=n.items.length
theorem GAt.node {w:World} {B:Nat} {A:Option Addr} {vs:List NV} {ns:List Gr.Nd} (h:GAt w B A vs ns) {j:Nat} (hj:j<ns.length):∃ad k i,A=some ad/\NodeAt w B (ad.add (j*5)) ns[j] k i:=by
 have hv:j<vs.length:=by rw[h.len];exact hj
 obtain⟨ad,h1,h2,c0,c1,c2,c3,c4⟩:=node_at h.row hv;obtain⟨k0,k1,k2⟩:=h.kind j hv hj;obtain⟨n1,n2,n3,n4⟩:=h.nums j hv hj;rw[k0]at c0;rw[k1]at c1;rw[k2]at c2;exact⟨ad,vs[j].k,vs[j].i,h1,by rw[block_of_add];exact h2,c0,c1,c2,c3,c4,n1,n2,n3,n4⟩
structure Kept1 (g:Nat) (w w':World):Prop where
 os:w'.os=w.os
 tape:w'.tape=w.tape
 output:w'.output=w.output
 size:w'.heap.size=w.heap.size
 block:∀k,k≠g->w'.heap[k]? =w.heap[k]?
theorem Kept1.refl (g:Nat) (w:World):Kept1 g w w:=⟨rfl,rfl,rfl,rfl,fun _ _=>rfl⟩
theorem Kept1.trans {g:Nat} {a b c:World} (h:Kept1 g a b) (h2:Kept1 g b c):Kept1 g a c:=
 ⟨h2.os.trans h.os,h2.tape.trans h.tape,h2.output.trans h.output,h2.size.trans h.size,fun k hk=>(h2.block k hk).trans (h.block k hk)⟩
theorem Kept1.drewN {g:Nat} {a b:World} (h:Kept1 g a b) (n:Nat):Kept1 g a (b.drewN n):=h.trans ⟨rfl,rfl,rfl,rfl,fun _ _=>rfl⟩
theorem Kept1.below {g B:Nat} {a b:World} (h:Kept1 g a b) (hB:B<=g):Below B a b:=⟨h.os,h.tape,h.output,Nat.le_of_eq h.size.symm,fun k hk=>h.block k (by omega)⟩
theorem Kept1.blk {g k:Nat} {a b:World} {t:TypeId} {cs:Array Value} (h:Kept1 g a b) (hb:Blk a k t cs) (hk:k≠g):Blk b k t cs:=(h.block k hk).trans hb
theorem Kept1.set {w:World} {g:Nat} (i:Nat) (u:Value):Kept1 g w (w.setCell ⟨g,i,none⟩ u):=⟨rfl,rfl,rfl,by simp[World.setCell],fun _ hk=>Below.heap_setCell _ _ _ _ hk⟩
def bcells (m:List Bool):Array Value:=(m.map Value.bool).toArray
theorem bcells_set (m:List Bool) (i:Nat) (b:Bool):(bcells m).setIfInBounds i (.bool b)=bcells (m.set i b):=by
 simp[bcells,List.map_set]
theorem bcells_get {m:List Bool} {i:Nat} (h:i<m.length):(bcells m)[i]? =some (.bool (m.getD i false)):=by
 simp[bcells,List.getD_eq_getElem?_getD,h]
def icells (m:List Nat):Array Value:=(m.map (fun(x:Nat)=>Value.int .i64 (x:Int))).toArray
theorem icells_set (m:List Nat) (i x:Nat):(icells m).setIfInBounds i (.int .i64 (x:Int))=icells (m.set i x):=by
 simp[icells,List.map_set]
theorem icells_get {m:List Nat} {i:Nat} (h:i<m.length):(icells m)[i]? =some (.int .i64 ((m.getD i 0:Nat):Int)):=by
 simp[icells,List.getD_eq_getElem?_getD,h]
theorem run_make_rowN {P:Program} (t e:TypeId) (i:TypeInfo) (z:Value) (ht:P.underlying t=some (.slice e)) (hi:P.info? e=some i) (hz:i.zero=some z)
 (kl kc:IntKind) (n c:Nat) (hnc:n<=c) (hbytes:i.bytes*c<=281474976710656) (h63:c<=9223372036854775807) (w:World):
 (Instr.makeSlice t (.int kl (n:Int)) (.int kc (c:Int))).run P w=.ok (.slice (some ⟨w.heap.size,0,none⟩) n c) (w.alloc (.cells (madeCells z.cells (c*i.size)) e)):=by
 have hb:(i.bytes:Int)*(c:Int)<=281474976710656:=by
  have h:((i.bytes*c:Nat):Int)<=281474976710656:=by omega
  rwa[Int.natCast_mul]at h
 have hr:=run_make (P:=P) w t e i z ht hi hz kl kc n c (by omega) (by omega) hb (by omega);simp only[Int.toNat_natCast]at hr;exact hr
theorem madeCells_one (v:Value) (n:Nat):madeCells #[v] (n*1)=(List.replicate n v).toArray:=by
 apply Array.ext
 ·simp[madeCells]
 ·intro i h1 h2;simp[madeCells,Nat.mod_one]
theorem infoInt:(Tryz.prog.info? 3).map (fun i=>(i.zero,i.size,i.bytes))=some (some (.int .i64 0),1,8):=by kernel_rfl
theorem infoBool:(Tryz.prog.info? 4).map (fun i=>(i.zero,i.size,i.bytes))=some (some (.bool false),1,1):=by kernel_rfl
theorem make_ints (n:Nat) (hn:n<=1073741824) (W:World):(Instr.makeSlice 33 (.int .i64 (n:Int)) (.int .i64 (n:Int))).run Tryz.prog W=.ok (.slice (some ⟨W.heap.size,0,none⟩) n n) (W.alloc (.cells (icells (List.replicate n 0)) 3)):=by
 obtain⟨i5,hi5,hz5,hs5,hby5⟩:=info_parts infoInt;have:=run_make_rowN (P:=Tryz.prog) 33 3 i5 _ Tryz.underlying33 hi5 hz5 .i64 .i64 n n (Nat.le_refl _) (by rw[hby5];omega) (by omega) W;rw[hs5]at this;simp only[Value.cells,madeCells_one]at this;rw[this];simp[icells]
theorem make_bools (n:Nat) (hn:n<=1073741824) (W:World):(Instr.makeSlice 62 (.int .i64 (n:Int)) (.int .i64 (n:Int))).run Tryz.prog W=.ok (.slice (some ⟨W.heap.size,0,none⟩) n n) (W.alloc (.cells (bcells (List.replicate n false)) 4)):=by
 obtain⟨i5,hi5,hz5,hs5,hby5⟩:=info_parts infoBool;have:=run_make_rowN (P:=Tryz.prog) 62 4 i5 _ Tryz.underlying62 hi5 hz5 .i64 .i64 n n (Nat.le_refl _) (by rw[hby5];omega) (by omega) W;rw[hs5]at this;simp only[Value.cells,madeCells_one]at this;rw[this];simp[bcells]
def KB (g:Nat) (w w':World):Prop:=KeptBut' w w' (fun k=>k=g)
theorem KB.refl (g:Nat) (w:World):KB g w w:=⟨rfl,rfl,rfl,Nat.le_refl _,fun _ _ _=>rfl⟩
theorem KB.trans {g:Nat} {a b c:World} (h:KB g a b) (h2:KB g b c):KB g a c:=
 ⟨h2.os.trans h.os,h2.tape.trans h.tape,h2.output.trans h.output,Nat.le_trans h.size h2.size,fun k hk hg=>(h2.block k (Nat.lt_of_lt_of_le hk h.size) hg).trans (h.block k hk hg)⟩
theorem KB.of_below {g:Nat} {a b:World} (h:Below a.heap.size a b):KB g a b:=⟨h.os,h.tape,h.output,h.size,fun k hk _=>h.block k hk⟩
theorem KB.of1 {g:Nat} {a b:World} (h:Kept1 g a b):KB g a b:=⟨h.os,h.tape,h.output,Nat.le_of_eq h.size.symm,fun k _ hg=>h.block k hg⟩
theorem KB.alloc {g:Nat} {a b:World} (h:KB g a b) (o:Obj):KB g a (b.alloc o):=h.trans (KB.of_below ((Below.refl _ _).alloc (Nat.le_refl _) o))
theorem KB.drewN {g:Nat} {a b:World} (h:KB g a b) (n:Nat):KB g a (b.drewN n):=h.trans ⟨rfl,rfl,rfl,Nat.le_refl _,fun _ _ _=>rfl⟩
theorem KB.set {g:Nat} {a b:World} (h:KB g a b) (i:Nat) (u:Value):KB g a (b.setCell ⟨g,i,none⟩ u):=h.trans (KB.of1 (Kept1.set i u))
theorem KB.blk {g k:Nat} {a b:World} {t:TypeId} {cs:Array Value} (h:KB g a b) (hb:Blk a k t cs) (hk:k≠g):Blk b k t cs:=(h.block k hb.lt hk).trans hb
theorem KB.below {g B:Nat} {a b:World} (h:KB g a b) (hB:B<=g) (hs:B<=a.heap.size):Below B a b:=⟨h.os,h.tape,h.output,h.size,fun k hk=>h.block k (by omega) (by omega)⟩
end Go.Proofs.YtoigpackhninoaaGreatDoor
namespace Go.Proofs.YtoigpackhninoaaGreatDoor
open Go.RowKit
structure WB (B:Nat) (w0:World) where
 w:World
 h:Below B w0 w
instance WB.inst (B:Nat) (w0:World):Nonempty (WB B w0):=⟨⟨w0,Below.refl _ _⟩⟩
theorem wp_region_grow {P:Program} {id:Nat} {Q:Exit->Act->World->Prop} {a:Act} {w:World} {l:List Oper} (B:Nat) (w0:World) (hm:P.follows .mixedOrders=true) (hB:Region.lexB .any l.toArray=true) (h0:Below B w0 w)
 (h:wpQuiet P l.toArray (fun W=>∃x:WB B w0,W=x.w) (fun a'=>∀W,(∃x:WB B w0,W=x.w)->Q .normal a' W) l a):(Code.region id l.toArray true).wp P Q a w:=
 wp_region_quiet (C:=fun W=>∃x:WB B w0,W=x.w) hm hB ⟨⟨_,below_drewN h0 1⟩,rfl⟩ (by simpa using h)
theorem Calls.grow {P:Program} {f:FuncId} {args:Array Value} {B:Nat} {w0:World} {x:WB B w0} {v:Value} (h:Calls P f args x.w fun e w'=>e=.returned v/\Below B w0 w'):
 Calls P f args x.w fun e w''=>e=.returned v/\∃y:WB B w0,w''=y.w:=h.mono fun _ _ ⟨he,hb⟩=>⟨he,⟨_,hb⟩,rfl⟩
section
variable {P:Program} {ops:Array Oper} {md:Region.Mode} {C:World->Prop}
def wpAnyLQ (P:Program) (md:Region.Mode) (ops:Array Oper) (C:World->Prop) (n:Nat) (L:Array Bool->Act->Prop):Nat->Array Bool->Act->Prop
 | 0,listed,a=>L listed a
 |f+1,listed,a=>Region.ready md ops listed≠[]/\∀i∈Region.ready md ops listed,i<n/\qOp P ops C i (wpAnyLQ P md ops C n L f (listed.setIfInBounds i true)) a
theorem wpAny_of_headQ {n g:Nat} {L:Array Bool->Act->Prop} {Q':Exit->Act->World->Prop} (hL:∀listed a w,C w->L listed a->wpAny P md ops Q' g listed a w):
 ∀(f:Nat) (listed:Array Bool) (a:Act) (w:World),C w->wpAnyLQ P md ops C n L f listed a->wpAny P md ops Q' (f+g) listed a w
 | 0,listed,a,w,hC,h=>by rw[Nat.zero_add];exact hL _ _ _ hC h
 |f+1,listed,a,w,hC,h=>by
  rw[show f+1+g=(f+g)+1 by omega];exact⟨fun h0=>absurd h0 h.1,fun i hi=>wpOp_of_qOp hC (fun a' w' hw' h'=>wpAny_of_headQ hL f _ a' w' hw' h') (h.2 i hi).2⟩
theorem wpAnyLQ_first {n i:Nat} {oi:Oper} {v:Value} {L:Array Bool->Act->Prop} (hi:ops[i]? =some oi) (hsel:∀(j:Nat) (o:Oper) cs b,ops[j]? =some o->o.op≠.select cs b)
 (hs:Region.sinkB md ops n=true) (hc:Region.chainB md ops n=true) (hn:n<ops.size) (hin:i<n)
 (hdone:∀listed a,L listed a->∀j∈Region.ready md ops listed,n<=j):
 ∀(f:Nat) (listed:Array Bool) (a:Act),HeadInv md ops n listed->
  (∀j oj,ops[j]? =some oj->j≠i->listed.getD j true=false->(∀e∈oj.after,Region.binds md e=true->e.on≠i)->oi.apart ops oj=true)->
  i∈Region.ready md ops listed->YieldsIn P ops C oi v a->
  wpAnyLQ P md ops C n L f (listed.setIfInBounds i true) (a.put oi.dst v)->wpAnyLQ P md ops C n L (f+1) listed a:=by
 intro f
 induction f with
 |zero=>
  intro listed a inv _ hr hy H;have hun:=(mem_ready.1 hr).1;refine⟨fun h=>(by rw[h]at hr;cases hr),fun j hj=>?_⟩;have hjn:j<n:=by
   rcases Nat.lt_or_ge j n with h|h
   ·exact h
   ·exact absurd hj (tail_waits hs hc hn inv _ i rfl hin hun j h)
  refine⟨hjn,?_⟩;by_cases hji:j=i
  ·subst hji;exact hy.qOp hi H
  ·have:=hdone _ _ H j (ready_mono hj hji);omega
 |succ f ih=>
  intro listed a inv hfree hr hy H;have hun:=(mem_ready.1 hr).1;refine⟨fun h=>(by rw[h]at hr;cases hr),fun j hj=>?_⟩;have hjn:j<n:=by
   rcases Nat.lt_or_ge j n with h|h
   ·exact h
   ·exact absurd hj (tail_waits hs hc hn inv _ i rfl hin hun j h)
  refine⟨hjn,?_⟩;by_cases hji:j=i
  ·subst hji;exact hy.qOp hi H
  ·have h1:=(H.2 j (ready_mono hj hji)).2;obtain⟨hjun,oj,hoj,hall⟩:=mem_ready.1 hj;have hnot:∀e∈oj.after,Region.binds md e=true->e.on≠i:=fun e he hb heq=>by
    have h1:=hall e he hb;rw[heq,getD_both hun]at h1;cases h1
   have h2:=qOp_put hoj (hfree j oj hoj hji hjun hnot) (fun cs b=>hsel i oi cs b hi) (fun cs b=>hsel j oj cs b hoj) hy h1;have hfree':∀k ok,ops[k]? =some ok->k≠i->(listed.setIfInBounds j true).getD k true=false->
    (∀e∈ok.after,Region.binds md e=true->e.on≠i)->oi.apart ops ok=true:=fun k ok hk hki hun hno=>by
    refine hfree k ok hk hki ?_ hno;by_cases hjk:j=k
    ·subst hjk;exact hjun
    ·rw[getD_set_ne true hjk]at hun;exact hun
   refine qOp_mono (fun a' h3=>ih (listed.setIfInBounds j true) a' (inv.set hj hjn) hfree' (ready_mono hr (Ne.symm hji)) h3.1 ?_) h2;rw[Array.setIfInBounds_comm _ _ hji];exact h3.2
theorem wpAnyLQ_lex {n g:Nat} {Lq:Act->Prop} (hsel:Region.noSelect ops=true) (hs:Region.sinkB md ops n=true) (hc:Region.chainB md ops n=true) (hn:n<ops.size):
 ∀(l:List Oper) (k:Nat) (listed:Array Bool) (a:Act),(∀j,j<l.length->l[j]? =ops[k+j]?)->k+l.length=n->HeadInv md ops n listed->
 Region.lexHead md ops g l.length k listed=true->wpQuiet P ops C Lq l a->
 wpAnyLQ P md ops C n (fun listed' a'=>Region.seqB md ops g n listed'=true/\Lq a') l.length listed a
 | [],k,listed,a,_,hk,_,hB,h=>by
  have:k=n:=by simpa using hk
  subst this;exact⟨by simpa[Region.lexHead]using hB,h⟩
 |o::l,k,listed,a,hl,hk,inv,hB,h=>by
  have h0:ops[k]? =some o:=by simpa using(hl 0 (by simp)).symm
  simp only[List.length_cons,Region.lexHead,Bool.and_eq_true]at hB;obtain⟨⟨hr,hf⟩,hB'⟩:=hB;have hkn:k<n:=by simp only[List.length_cons]at hk;omega
  have hr':k∈Region.ready md ops listed:=by simpa using hr
  have hst:qOp P ops C k (wpQuiet P ops C Lq l) a:=by unfold qOp;simp only[h0];exact h
  obtain⟨v,hy,hK⟩:=yieldsIn_of_qOp h0 hst;exact wpAnyLQ_first h0 (Region.noSelect_spec hsel) hs hc hn hkn (fun listed' a' hL=>seqB_ready hL.1) l.length listed a inv (Region.free_spec h0 hf) hr' hy
   (wpAnyLQ_lex hsel hs hc hn l (k+1) _ _ (fun j hj=>by have:=hl (j+1) (by simp;omega);simpa[Nat.add_assoc,Nat.add_comm 1 j]using this) (by simp only[List.length_cons]at hk;omega) (inv.set hr' hkn) hB' hK)
theorem wp_region_quiet_tail {id:Nat} {Q:Exit->Act->World->Prop} {a:Act} {w:World} {l:List Oper} (n:Nat) (hm:P.follows .mixedOrders=true) (hB:Region.lexTailB .any l.toArray n=true) (hC:C {w with drawn:=w.drawn+1})
 (h:wpQuiet P l.toArray C (fun a'=>∀W,C W->wpList P l.toArray Q (l.drop n) a' W) (l.take n) a):(Code.region id l.toArray true).wp P Q a w:=by
 simp only[Region.lexTailB,Bool.and_eq_true,decide_eq_true_eq]at hB;obtain⟨⟨⟨⟨hsel,hn⟩,hs⟩,hc⟩,hlex⟩:=hB;have hn':n<l.length:=by simpa using hn
 have htl:(l.take n).length=n:=by simp;omega
 have hdl:(l.drop n).length=l.toArray.size-n:=by simp
 have inv0:HeadInv .any l.toArray n (Array.replicate l.toArray.size false):=
  ⟨by simp,fun j oj _ hl=>(by rw[getD_replicate_false]at hl;cases hl),fun t _ ht=>getD_in (by simpa using ht) (getD_replicate_false _ _)⟩
 have H:=wpAnyLQ_lex (md:=.any) (g:=l.toArray.size-n) hsel hs hc hn (l.take n) 0 _ a (fun j hj=>by
  have hj':j<n:=by rw[htl]at hj;exact hj
  simp[hj']) (by simpa using htl) inv0 (by rw[htl];exact hlex) h
 refine wp_region_any hm ?_;have:=wpAny_of_headQ (Q':=Q) (g:=l.toArray.size-n) (fun listed a' w' hw' hL=>by
  have:=wpAny_of_seq (md:=.any) (Q':=Q) (l.drop n) n listed a' w' (fun j=>by simp[List.getElem?_drop]) (by rw[hdl];exact hL.1) (hL.2 w' hw');rwa[hdl]at this) _ _ _ _ hC H
 rw[htl,show n+(l.toArray.size-n)=l.toArray.size by omega]at this;exact this
end
theorem wp_region_grow_tail {P:Program} {id:Nat} {Q:Exit->Act->World->Prop} {a:Act} {w:World} {l:List Oper} (n:Nat) (B:Nat) (w0:World) (hm:P.follows .mixedOrders=true) (hB:Region.lexTailB .any l.toArray n=true) (h0:Below B w0 w)
 (h:wpQuiet P l.toArray (fun W=>∃x:WB B w0,W=x.w) (fun a'=>∀W,(∃x:WB B w0,W=x.w)->wpList P l.toArray Q (l.drop n) a' W) (l.take n) a):(Code.region id l.toArray true).wp P Q a w:=
 wp_region_quiet_tail (C:=fun W=>∃x:WB B w0,W=x.w) n hm hB ⟨⟨_,below_drewN h0 1⟩,rfl⟩ h
end Go.Proofs.YtoigpackhninoaaGreatDoor
namespace Go.Proofs.YtoigpackhninoaaGreatDoor
def tl:Nat->Code->Code
 | 0,c=>c
 |n+1,.seq _ b=>tl n b
 |_+1,c=>c
end Go.Proofs.YtoigpackhninoaaGreatDoor

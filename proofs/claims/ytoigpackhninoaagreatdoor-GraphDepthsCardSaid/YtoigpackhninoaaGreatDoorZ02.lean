import Derived.Test.YtoigpackhninoaaGreatDoorZ01
import Derived.Test.YtoigpackhninoaaGreatDoorGr
import Derived.StillTail
import Derived.Deep.RegionHeld3
import Derived.Shelf.Spec.TrailingZeros
namespace Go.Proofs.YtoigpackhninoaaGreatDoor
open _root_.Go.Proofs.Tryz
open Go.RowKit
structure SV where
 a:Option Addr
 n:Nat
 c:Nat
def SV.v (x:SV):Value:=.slice x.a x.n x.c
def SV.nil:SV:=⟨none,0,0⟩
structure NV where
 kind:Int
 text:Gr.Str
 ord:Bool
 k:SV
 i:SV
def nodeL:Lay NV:={enc:=fun x=>[.int .i64 x.kind,.string ⟨x.text.toArray⟩,.bool x.ord,x.k.v,x.i.v],sz:=5,len:=fun _=>rfl,one:=fun x u hu=>by simp at hu;rcases hu with rfl|rfl|rfl|rfl|rfl<;>rfl,pos:=by omega}
def intL:Lay Nat:={enc:=fun x=>[.int .i64 (x:Int)],sz:=1,len:=fun _=>rfl,one:=fun x u hu=>by simp at hu;subst hu;rfl,pos:=by omega}
def intI:Lay Int:={enc:=fun x=>[.int .i64 x],sz:=1,len:=fun _=>rfl,one:=fun x u hu=>by simp at hu;subst hu;rfl,pos:=by omega}
theorem zby {α:Type} (L:Lay α) (t e:TypeId) (z:Value) (bytes:Nat) (hu:prog.underlying t=some (.slice e)) (h:(prog.info? e).map (fun i=>(i.zero,i.size,i.bytes))=some (some z,L.sz,bytes)) (hz:z.cells.size=L.sz) (hb:bytes<=256):SliceT prog L t e bytes:=by
 refine⟨hu,?_,hb⟩;obtain⟨i,h0,h1,h2,h3⟩:=info_parts h;exact⟨i,_,h0,h1,h2,h3,hz⟩
theorem nodeT:SliceT prog nodeL 22 35 80:=zby nodeL 22 35 (.agg #[.int .i64 0,.string ⟨#[]⟩,.bool false,.slice none 0 0,.slice none 0 0]) 80 underlying22 (by kernel_rfl) rfl (by omega)
theorem intT:SliceT prog intL 33 3 8:=zby intL 33 3 (.int .i64 0) 8 underlying33 (by kernel_rfl) rfl (by omega)
theorem zae {w:World} {B:Nat} {A:Option Addr} {l:List Nat} {k:Nat} (h:RowAt intL w B A l) (hk:k<l.length):∃ad,A=some ad/\ad.block<B/\w.cell? (ad.add k)=some (.int .i64 (l[k]:Int)):=by
 obtain⟨ad,h1,h2,h3,_⟩:=h.get hk;refine⟨ad,h1,h2,?_⟩;have:=h3 (.int .i64 (l[k]:Int)) rfl;rwa[show k*intL.sz=k from Nat.mul_one k]at this
theorem zot {w:World} {B:Nat} {A:Option Addr} {l:List NV} {k:Nat} (h:RowAt nodeL w B A l) (hk:k<l.length):∃ad,A=some ad/\ad.block<B/\w.cell? (ad.add (k*5))=some (.int .i64 l[k].kind)/\
 w.cell? {block:=(ad.add (k*5)).block,off:=(ad.add (k*5)).off+1}=some (.string ⟨l[k].text.toArray⟩)/\w.cell? {block:=(ad.add (k*5)).block,off:=(ad.add (k*5)).off+2}=some (.bool l[k].ord)/\
 w.cell? {block:=(ad.add (k*5)).block,off:=(ad.add (k*5)).off+3}=some (.slice l[k].k.a l[k].k.n l[k].k.c)/\w.cell? {block:=(ad.add (k*5)).block,off:=(ad.add (k*5)).off+4}=some (.slice l[k].i.a l[k].i.n l[k].i.c):=by
 obtain⟨ad,h1,h2,h3,h4⟩:=h.get hk;exact⟨ad,h1,h2,h3 _ rfl,h4 1 _ (by omega) rfl,h4 2 _ (by omega) rfl,h4 3 _ (by omega) rfl,h4 4 _ (by omega) rfl⟩
theorem below_drewN {B:Nat} {a b:World} (h:Below B a b) (n:Nat):Below B a (b.drewN n):=h.trans ⟨rfl,rfl,rfl,Nat.le_refl _,fun _ _=>rfl⟩
structure GAt (w:World) (B:Nat) (A:Option Addr) (vs:List NV) (ns:List Gr.Nd):Prop where
 row:RowAt nodeL w B A vs
 len:vs.length=ns.length
 kind:∀j (h:j<vs.length) (h2:j<ns.length),vs[j].kind=ns[j].kind/\vs[j].text=ns[j].text/\vs[j].ord=ns[j].ord
 nums:∀j (h:j<vs.length) (h2:j<ns.length),RowAt intL w B vs[j].k.a ns[j].keys/\vs[j].k.n=ns[j].keys.length/\RowAt intL w B vs[j].i.a ns[j].items/\vs[j].i.n=ns[j].items.length
theorem GAt.below {w w':World} {B:Nat} {A:Option Addr} {vs:List NV} {ns:List Gr.Nd} (h:GAt w B A vs ns) (hb:Below B w w'):GAt w' B A vs ns:=
 ⟨h.row.below hb,h.len,h.kind,fun j h1 h2=>let⟨a,b,c,d⟩:=h.nums j h1 h2;⟨a.below hb,b,c.below hb,d⟩⟩
theorem GAt.more {w:World} {B B':Nat} {A:Option Addr} {vs:List NV} {ns:List Gr.Nd} (h:GAt w B A vs ns) (hB:B<=B'):GAt w B' A vs ns:=
 ⟨h.row.more hB,h.len,h.kind,fun j h1 h2=>let⟨a,b,c,d⟩:=h.nums j h1 h2;⟨a.more hB,b,c.more hB,d⟩⟩
structure NodeAt (w:World) (B:Nat) (ad:Addr) (n:Gr.Nd) (k i:SV):Prop where
 lt:ad.block<B
 c0:w.cell? ad=some (.int .i64 n.kind)
 c1:w.cell? {block:=ad.block,off:=ad.off+1}=some (.string ⟨n.text.toArray⟩)
 c2:w.cell? {block:=ad.block,off:=ad.off+2}=some (.bool n.ord)
 c3:w.cell? {block:=ad.block,off:=ad.off+3}=some (.slice k.a k.n k.c)
 c4:w.cell? {block:=ad.block,off:=ad.off+4}=some (.slice i.a i.n i.c)
 keys:RowAt intL w B k.a n.keys
 kn:k.n=n.keys.length
 items:RowAt intL w B i.a n.items
 inn:i.n=n.items.length
theorem GAt.node {w:World} {B:Nat} {A:Option Addr} {vs:List NV} {ns:List Gr.Nd} (h:GAt w B A vs ns) {j:Nat} (hj:j<ns.length):∃ad k i,A=some ad/\NodeAt w B (ad.add (j*5)) ns[j] k i:=by
 have hv:j<vs.length:=by rw[h.len];exact hj
 obtain⟨ad,h1,h2,c0,c1,c2,c3,c4⟩:=zot h.row hv;obtain⟨k0,k1,k2⟩:=h.kind j hv hj;obtain⟨n1,n2,n3,n4⟩:=h.nums j hv hj;rw[k0]at c0;rw[k1]at c1;rw[k2]at c2;exact⟨ad,vs[j].k,vs[j].i,h1,by rw[zbd];exact h2,c0,c1,c2,c3,c4,n1,n2,n3,n4⟩
structure Kept1 (g:Nat) (w w':World):Prop where
 os:w'.os=w.os
 tape:w'.tape=w.tape
 output:w'.output=w.output
 size:w'.heap.size=w.heap.size
 block:∀k,k≠g->w'.heap[k]? =w.heap[k]?
theorem Kept1.refl (g:Nat) (w:World):Kept1 g w w:=⟨rfl,rfl,rfl,rfl,fun _ _=>rfl⟩
theorem Kept1.trans {g:Nat} {a b c:World} (h:Kept1 g a b) (h2:Kept1 g b c):Kept1 g a c:=
 ⟨h2.os.trans h.os,h2.tape.trans h.tape,h2.output.trans h.output,h2.size.trans h.size,fun k hk=>(h2.block k hk).trans (h.block k hk)⟩
theorem Kept1.drewN {g:Nat} {a b:World} (h:Kept1 g a b) (n:Nat):Kept1 g a (b.drewN n):=h.trans ⟨rfl,rfl,rfl,rfl,fun _ _=>rfl⟩
theorem Kept1.below {g B:Nat} {a b:World} (h:Kept1 g a b) (hB:B<=g):Below B a b:=⟨h.os,h.tape,h.output,Nat.le_of_eq h.size.symm,fun k hk=>h.block k (by omega)⟩
theorem Kept1.blk {g k:Nat} {a b:World} {t:TypeId} {cs:Array Value} (h:Kept1 g a b) (hb:Blk a k t cs) (hk:k≠g):Blk b k t cs:=(h.block k hk).trans hb
theorem Kept1.set {w:World} {g:Nat} (i:Nat) (u:Value):Kept1 g w (w.setCell ⟨g,i,none⟩ u):=⟨rfl,rfl,rfl,by simp[World.setCell],fun _ hk=>Below.heap_setCell _ _ _ _ hk⟩
def bcells (m:List Bool):Array Value:=(m.map Value.bool).toArray
theorem zbz (m:List Bool) (i:Nat) (b:Bool):(bcells m).setIfInBounds i (.bool b)=bcells (m.set i b):=by
 simp[bcells,List.map_set]
theorem zah {m:List Bool} {i:Nat} (h:i<m.length):(bcells m)[i]? =some (.bool (m.getD i false)):=by
 simp[bcells,List.getD_eq_getElem?_getD,h]
def icells (m:List Nat):Array Value:=(m.map (fun(x:Nat)=>Value.int .i64 (x:Int))).toArray
theorem zau (m:List Nat) (i x:Nat):(icells m).setIfInBounds i (.int .i64 (x:Int))=icells (m.set i x):=by
 simp[icells,List.map_set]
theorem zad {m:List Nat} {i:Nat} (h:i<m.length):(icells m)[i]? =some (.int .i64 ((m.getD i 0:Nat):Int)):=by
 simp[icells,List.getD_eq_getElem?_getD,h]
theorem zbk {P:Program} (t e:TypeId) (i:TypeInfo) (z:Value) (ht:P.underlying t=some (.slice e)) (hi:P.info? e=some i) (hz:i.zero=some z)
 (kl kc:IntKind) (n c:Nat) (hnc:n<=c) (hbytes:i.bytes*c<=281474976710656) (h63:c<=9223372036854775807) (w:World):
 (Instr.makeSlice t (.int kl (n:Int)) (.int kc (c:Int))).run P w=.ok (.slice (some ⟨w.heap.size,0,none⟩) n c) (w.alloc (.cells (madeCells z.cells (c*i.size)) e)):=by
 have hb:(i.bytes:Int)*(c:Int)<=281474976710656:=by
  omega
 have hr:=run_make (P:=P) w t e i z ht hi hz kl kc n c (by omega) (by omega) hb (by omega);simp only[Int.toNat_natCast]at hr;exact hr
theorem zbl (v:Value) (n:Nat):madeCells #[v] (n*1)=(List.replicate n v).toArray:=by
 apply Array.ext
 ·simp[madeCells]
 ·intro i h1 h2;simp[madeCells,Nat.mod_one]
theorem infoInt:(prog.info? 3).map (fun i=>(i.zero,i.size,i.bytes))=some (some (.int .i64 0),1,8):=by kernel_rfl
theorem infoBool:(prog.info? 4).map (fun i=>(i.zero,i.size,i.bytes))=some (some (.bool false),1,1):=by kernel_rfl
theorem zb0 (n:Nat) (hn:n<=1073741824) (W:World):(Instr.makeSlice 33 (.int .i64 (n:Int)) (.int .i64 (n:Int))).run prog W=.ok (.slice (some ⟨W.heap.size,0,none⟩) n n) (W.alloc (.cells (icells (List.replicate n 0)) 3)):=by
 obtain⟨i5,hi5,hz5,hs5,hby5⟩:=info_parts infoInt;have:=zbk (P:=prog) 33 3 i5 _ underlying33 hi5 hz5 .i64 .i64 n n (Nat.le_refl _) (by rw[hby5];omega) (by omega) W;rw[hs5]at this;simp only[Value.cells,zbl]at this;rw[this];simp[icells]
theorem zb1 (n:Nat) (hn:n<=1073741824) (W:World):(Instr.makeSlice 62 (.int .i64 (n:Int)) (.int .i64 (n:Int))).run prog W=.ok (.slice (some ⟨W.heap.size,0,none⟩) n n) (W.alloc (.cells (bcells (List.replicate n false)) 4)):=by
 obtain⟨i5,hi5,hz5,hs5,hby5⟩:=info_parts infoBool;have:=zbk (P:=prog) 62 4 i5 _ underlying62 hi5 hz5 .i64 .i64 n n (Nat.le_refl _) (by rw[hby5];omega) (by omega) W;rw[hs5]at this;simp only[Value.cells,zbl]at this;rw[this];simp[bcells]
def KB (g:Nat) (w w':World):Prop:=zbj w w' (fun k=>k=g)
theorem KB.refl (g:Nat) (w:World):KB g w w:=⟨rfl,rfl,rfl,Nat.le_refl _,fun _ _ _=>rfl⟩
theorem KB.trans {g:Nat} {a b c:World} (h:KB g a b) (h2:KB g b c):KB g a c:=
 ⟨h2.os.trans h.os,h2.tape.trans h.tape,h2.output.trans h.output,Nat.le_trans h.size h2.size,fun k hk hg=>(h2.block k (Nat.lt_of_lt_of_le hk h.size) hg).trans (h.block k hk hg)⟩
theorem KB.of_below {g:Nat} {a b:World} (h:Below a.heap.size a b):KB g a b:=⟨h.os,h.tape,h.output,h.size,fun k hk _=>h.block k hk⟩
theorem KB.of1 {g:Nat} {a b:World} (h:Kept1 g a b):KB g a b:=⟨h.os,h.tape,h.output,Nat.le_of_eq h.size.symm,fun k _ hg=>h.block k hg⟩
theorem KB.alloc {g:Nat} {a b:World} (h:KB g a b) (o:Obj):KB g a (b.alloc o):=h.trans (KB.of_below ((Below.refl _ _).alloc (Nat.le_refl _) o))
theorem KB.drewN {g:Nat} {a b:World} (h:KB g a b) (n:Nat):KB g a (b.drewN n):=h.trans ⟨rfl,rfl,rfl,Nat.le_refl _,fun _ _ _=>rfl⟩
theorem KB.set {g:Nat} {a b:World} (h:KB g a b) (i:Nat) (u:Value):KB g a (b.setCell ⟨g,i,none⟩ u):=h.trans (KB.of1 (Kept1.set i u))
theorem KB.blk {g k:Nat} {a b:World} {t:TypeId} {cs:Array Value} (h:KB g a b) (hb:Blk a k t cs) (hk:k≠g):Blk b k t cs:=(h.block k hb.lt hk).trans hb
theorem KB.below {g B:Nat} {a b:World} (h:KB g a b) (hB:B<=g) (hs:B<=a.heap.size):Below B a b:=⟨h.os,h.tape,h.output,h.size,fun k hk=>h.block k (by omega) (by omega)⟩
structure WB (B:Nat) (w0:World) where
 w:World
 h:Below B w0 w
instance WB.inst (B:Nat) (w0:World):Nonempty (WB B w0):=⟨⟨w0,Below.refl _ _⟩⟩
theorem zaa {P:Program} {id:Nat} {Q:Exit->Act->World->Prop} {a:Act} {w:World} {l:List Oper} (B:Nat) (w0:World) (hm:P.follows .mixedOrders=true) (hB:Region.lexB .any l.toArray=true) (h0:Below B w0 w)
 (h:wpQuiet P l.toArray (fun W=>∃x:WB B w0,W=x.w) (fun a'=>∀W,(∃x:WB B w0,W=x.w)->Q .normal a' W) l a):(Code.region id l.toArray true).wp P Q a w:=
 wp_region_quiet (C:=fun W=>∃x:WB B w0,W=x.w) hm hB ⟨⟨_,below_drewN h0 1⟩,rfl⟩ (by simpa using h)
theorem Calls.grow {P:Program} {f:FuncId} {args:Array Value} {B:Nat} {w0:World} {x:WB B w0} {v:Value} (h:Calls P f args x.w fun e w'=>e=.returned v/\Below B w0 w'):
 Calls P f args x.w fun e w''=>e=.returned v/\∃y:WB B w0,w''=y.w:=h.mono fun _ _ ⟨he,hb⟩=>⟨he,⟨_,hb⟩,rfl⟩
section
variable {P:Program} {ops:Array Oper} {md:Region.Mode} {C:World->Prop}
def wpAnyLQ (P:Program) (md:Region.Mode) (ops:Array Oper) (C:World->Prop) (n:Nat) (L:Array Bool->Act->Prop):Nat->Array Bool->Act->Prop
 | 0,listed,a=>L listed a
 |f+1,listed,a=>Region.ready md ops listed≠[]/\∀i∈Region.ready md ops listed,i<n/\qOp P ops C i (wpAnyLQ P md ops C n L f (listed.setIfInBounds i true)) a
theorem zc3 {n g:Nat} {L:Array Bool->Act->Prop} {Q':Exit->Act->World->Prop} (hL:∀listed a w,C w->L listed a->wpAny P md ops Q' g listed a w):
 ∀(f:Nat) (listed:Array Bool) (a:Act) (w:World),C w->wpAnyLQ P md ops C n L f listed a->wpAny P md ops Q' (f+g) listed a w
 | 0,listed,a,w,hC,h=>by rw[Nat.zero_add];exact hL _ _ _ hC h
 |f+1,listed,a,w,hC,h=>by
  rw[show f+1+g=(f+g)+1 by omega];exact⟨fun h0=>absurd h0 h.1,fun i hi=>wpOp_of_qOp hC (fun a' w' hw' h'=>zc3 hL f _ a' w' hw' h') (h.2 i hi).2⟩
theorem zg4 {n i:Nat} {oi:Oper} {v:Value} {L:Array Bool->Act->Prop} (hi:ops[i]? =some oi) (hsel:∀(j:Nat) (o:Oper) cs b,ops[j]? =some o->o.op≠.select cs b)
 (hs:Region.sinkB md ops n=true) (hc:Region.chainB md ops n=true) (hn:n<ops.size) (hin:i<n)
 (hdone:∀listed a,L listed a->∀j∈Region.ready md ops listed,n<=j):
 ∀(f:Nat) (listed:Array Bool) (a:Act),HeadInv md ops n listed->
  (∀j oj,ops[j]? =some oj->j≠i->listed.getD j true=false->(∀e∈oj.after,Region.binds md e=true->e.on≠i)->oi.apart ops oj=true)->
  i∈Region.ready md ops listed->YieldsIn P ops C oi v a->
  wpAnyLQ P md ops C n L f (listed.setIfInBounds i true) (a.put oi.dst v)->wpAnyLQ P md ops C n L (f+1) listed a:=by
 intro f
 induction f with
 |zero=>
  intro listed a inv _ hr hy H;have hun:=(mem_ready.1 hr).1;refine⟨fun h=>(by rw[h]at hr;cases hr),fun j hj=>?_⟩;have hjn:j<n:=by
   rcases Nat.lt_or_ge j n with h|h
   ·exact h
   ·exact absurd hj (tail_waits hs hc hn inv _ i rfl hin hun j h)
  refine⟨hjn,?_⟩;by_cases hji:j=i
  ·subst hji;exact hy.qOp hi H
  ·have:=hdone _ _ H j (ready_mono hj hji);omega
 |succ f ih=>
  intro listed a inv hfree hr hy H;have hun:=(mem_ready.1 hr).1;refine⟨fun h=>(by rw[h]at hr;cases hr),fun j hj=>?_⟩;have hjn:j<n:=by
   rcases Nat.lt_or_ge j n with h|h
   ·exact h
   ·exact absurd hj (tail_waits hs hc hn inv _ i rfl hin hun j h)
  refine⟨hjn,?_⟩;by_cases hji:j=i
  ·subst hji;exact hy.qOp hi H
  ·have h1:=(H.2 j (ready_mono hj hji)).2;obtain⟨hjun,oj,hoj,hall⟩:=mem_ready.1 hj;have hnot:∀e∈oj.after,Region.binds md e=true->e.on≠i:=fun e he hb heq=>by
    grind
   have h2:=qOp_put hoj (hfree j oj hoj hji hjun hnot) (fun cs b=>hsel i oi cs b hi) (fun cs b=>hsel j oj cs b hoj) hy h1;have hfree':∀k ok,ops[k]? =some ok->k≠i->(listed.setIfInBounds j true).getD k true=false->
    (∀e∈ok.after,Region.binds md e=true->e.on≠i)->oi.apart ops ok=true:=fun k ok hk hki hun hno=>by
    refine hfree k ok hk hki ?_ hno;by_cases hjk:j=k
    ·subst hjk;exact hjun
    ·rw[getD_set_ne true hjk]at hun;exact hun
   refine qOp_mono (fun a' h3=>ih (listed.setIfInBounds j true) a' (inv.set hj hjn) hfree' (ready_mono hr (Ne.symm hji)) h3.1 ?_) h2;rw[Array.setIfInBounds_comm _ _ hji];exact h3.2
theorem ze7 {n g:Nat} {Lq:Act->Prop} (hsel:Region.noSelect ops=true) (hs:Region.sinkB md ops n=true) (hc:Region.chainB md ops n=true) (hn:n<ops.size):
 ∀(l:List Oper) (k:Nat) (listed:Array Bool) (a:Act),(∀j,j<l.length->l[j]? =ops[k+j]?)->k+l.length=n->HeadInv md ops n listed->
 Region.lexHead md ops g l.length k listed=true->wpQuiet P ops C Lq l a->
 wpAnyLQ P md ops C n (fun listed' a'=>Region.seqB md ops g n listed'=true/\Lq a') l.length listed a
 | [],k,listed,a,_,hk,_,hB,h=>by
  have:k=n:=by simpa using hk
  subst this;exact⟨by simpa[Region.lexHead]using hB,h⟩
 |o::l,k,listed,a,hl,hk,inv,hB,h=>by
  have h0:ops[k]? =some o:=by simpa using(hl 0 (by simp)).symm
  simp only[List.length_cons,Region.lexHead,Bool.and_eq_true]at hB;obtain⟨⟨hr,hf⟩,hB'⟩:=hB;have hkn:k<n:=by simp only[List.length_cons]at hk;omega
  have hr':k∈Region.ready md ops listed:=by simpa using hr
  have hst:qOp P ops C k (wpQuiet P ops C Lq l) a:=by unfold qOp;simp only[h0];exact h
  obtain⟨v,hy,hK⟩:=yieldsIn_of_qOp h0 hst;exact zg4 h0 (Region.noSelect_spec hsel) hs hc hn hkn (fun listed' a' hL=>seqB_ready hL.1) l.length listed a inv (Region.free_spec h0 hf) hr' hy
   (ze7 hsel hs hc hn l (k+1) _ _ (fun j hj=>by have:=hl (j+1) (by simp;omega);simpa[Nat.add_assoc,Nat.add_comm 1 j]using this) (by simp only[List.length_cons]at hk;omega) (inv.set hr' hkn) hB' hK)
theorem zc1 {id:Nat} {Q:Exit->Act->World->Prop} {a:Act} {w:World} {l:List Oper} (n:Nat) (hm:P.follows .mixedOrders=true) (hB:Region.lexTailB .any l.toArray n=true) (hC:C {w with drawn:=w.drawn+1})
 (h:wpQuiet P l.toArray C (fun a'=>∀W,C W->wpList P l.toArray Q (l.drop n) a' W) (l.take n) a):(Code.region id l.toArray true).wp P Q a w:=by
 simp only[Region.lexTailB,Bool.and_eq_true,decide_eq_true_eq]at hB;obtain⟨⟨⟨⟨hsel,hn⟩,hs⟩,hc⟩,hlex⟩:=hB;have hn':n<l.length:=by simpa using hn
 have htl:(l.take n).length=n:=by simp;omega
 have hdl:(l.drop n).length=l.toArray.size-n:=by simp
 have inv0:HeadInv .any l.toArray n (Array.replicate l.toArray.size false):=
  ⟨by simp,fun j oj _ hl=>(by rw[getD_replicate_false]at hl;cases hl),fun t _ ht=>getD_in (by simpa using ht) (getD_replicate_false _ _)⟩
 have H:=ze7 (md:=.any) (g:=l.toArray.size-n) hsel hs hc hn (l.take n) 0 _ a (fun j hj=>by
  have hj':j<n:=by rw[htl]at hj;exact hj
  simp[hj']) (by simpa using htl) inv0 (by rw[htl];exact hlex) h
 refine wp_region_any hm ?_;have:=zc3 (Q':=Q) (g:=l.toArray.size-n) (fun listed a' w' hw' hL=>by
  have:=wpAny_of_seq (md:=.any) (Q':=Q) (l.drop n) n listed a' w' (fun j=>by simp[List.getElem?_drop]) (by rw[hdl];exact hL.1) (hL.2 w' hw');rwa[hdl]at this) _ _ _ _ hC H
 rw[htl,show n+(l.toArray.size-n)=l.toArray.size by omega]at this;exact this
end
theorem zbr {P:Program} {id:Nat} {Q:Exit->Act->World->Prop} {a:Act} {w:World} {l:List Oper} (n:Nat) (B:Nat) (w0:World) (hm:P.follows .mixedOrders=true) (hB:Region.lexTailB .any l.toArray n=true) (h0:Below B w0 w)
 (h:wpQuiet P l.toArray (fun W=>∃x:WB B w0,W=x.w) (fun a'=>∀W,(∃x:WB B w0,W=x.w)->wpList P l.toArray Q (l.drop n) a' W) (l.take n) a):(Code.region id l.toArray true).wp P Q a w:=
 zc1 (C:=fun W=>∃x:WB B w0,W=x.w) n hm hB ⟨⟨_,below_drewN h0 1⟩,rfl⟩ h
def byteL:Lay UInt8:={enc:=fun x=>[.int .u8 (x.toNat:Int)],sz:=1,len:=fun _=>rfl,one:=fun x u hu=>by simp at hu;subst hu;rfl,pos:=by omega}
theorem byteT:SliceT prog byteL 119 5 1:=zby byteL 119 5 (.int .u8 0) 1 underlying119 (by kernel_rfl) rfl (by omega)
theorem zxg {w:World} {B:Nat} {A:Option Addr} {l:List UInt8} {k:Nat} (h:RowAt byteL w B A l) (hk:k<l.length):∃ad,A=some ad/\ad.block<B/\w.cell? (ad.add k)=some (.int .u8 (l[k].toNat:Int)):=by
 obtain⟨ad,h1,h2,h3,_⟩:=h.get hk;refine⟨ad,h1,h2,?_⟩;have:=h3 (.int .u8 (l[k].toNat:Int)) rfl;rwa[show k*byteL.sz=k from Nat.mul_one k]at this
theorem zii (a:Option Addr) (n c m:Nat) (hm:m<=c) (w:World):(Instr.slice 119 (.slice a n c) none (some (.int .i64 (m:Int))) none).run prog w=.ok (.slice a m c) w:=by
 obtain⟨i0,z,hi,hz0,hz1,hz2,hz3⟩:=byteT.info;rw[run_slice_h (P:=prog) 119 5 i0 underlying119 hi a n c m hm w];split
 ·rfl
 ·cases a<;>simp[Addr.add]
theorem zav (s:Gr.Str) (k:Nat) (hk:k<s.length) (c d:UInt8) (n:Int) (hn:(d.toNat:Int)=n) (h:s[k]=c) (e:c=d):(((⟨s.toArray⟩:ByteArray)[k]'(by simpa[ByteArray.size]using hk)).toNat:Int)=n:=by
 have:(⟨s.toArray⟩:ByteArray)[k]'(by simpa[ByteArray.size]using hk)=s[k]:=rfl;rw[this,h,e,hn]
theorem zan (s:Gr.Str) (k:Nat) (hk:k<s.length) (c d:UInt8) (n:Int) (hn:(d.toNat:Int)=n) (h:s[k]=c) (e:c≠d):¬(((⟨s.toArray⟩:ByteArray)[k]'(by simpa[ByteArray.size]using hk)).toNat:Int)=n:=by
 have:(⟨s.toArray⟩:ByteArray)[k]'(by simpa[ByteArray.size]using hk)=s[k]:=rfl;rw[this,h,<-hn];exact fun he=>e (UInt8.toNat_inj.1 (by omega))
theorem zap (s:Gr.Str) (k:Nat) (hk:k<s.length) (c d:UInt8) (n:Int) (hn:(d.toNat:Int)=n) (h:s[k]=c) (e:c=d):((((⟨s.toArray⟩:ByteArray)[k]'(by simpa[ByteArray.size]using hk)).toNat:Int)==n)=true:=by
 simpa using zav s k hk c d n hn h e
theorem zaq (s:Gr.Str) (k:Nat) (hk:k<s.length) (c d:UInt8) (n:Int) (hn:(d.toNat:Int)=n) (h:s[k]=c) (e:c≠d):((((⟨s.toArray⟩:ByteArray)[k]'(by simpa[ByteArray.size]using hk)).toNat:Int)==n)=false:=by
 simpa using zan s k hk c d n hn h e
def ucells (l:List UInt8):Array Value:=(l.map (fun(c:UInt8)=>Value.int .u8 (c.toNat:Int))).toArray
theorem zd0 (l:List UInt8) (i:Nat) (x:UInt8):(ucells l).setIfInBounds i (.int .u8 (x.toNat:Int))=ucells (l.set i x):=by
 simp[ucells,List.map_set]
theorem zar (l:List UInt8):(ucells l).toList=byteL.all l:=by
 induction l with
 |nil=>rfl
 |cons x l ih=>
  have e1:(ucells (x::l)).toList=.int .u8 (x.toNat:Int)::(ucells l).toList:=by simp[ucells]
  have e2:byteL.all (x::l)=.int .u8 (x.toNat:Int)::byteL.all l:=rfl;rw[e1,e2,ih]
theorem infoByte:(prog.info? 5).map (fun i=>(i.zero,i.size,i.bytes))=some (some (.int .u8 0),1,1):=by kernel_rfl
theorem zcw (n:Nat) (hn:n<=1073741824) (W:World):(Instr.makeSlice 119 (.int .i64 (n:Int)) (.int .i64 (n:Int))).run prog W=.ok (.slice (some ⟨W.heap.size,0,none⟩) n n) (W.alloc (.cells (ucells (List.replicate n 0)) 5)):=by
 obtain⟨i5,hi5,hz5,hs5,hby5⟩:=info_parts infoByte;have:=zbk (P:=prog) 119 5 i5 _ underlying119 hi5 hz5 .i64 .i64 n n (Nat.le_refl _) (by rw[hby5];omega) (by omega) W;rw[hs5]at this;simp only[Value.cells,zbl]at this;rw[this];simp[ucells]
theorem RowAt.ofBlk {α:Type} {L:Lay α} {w:World} {g B:Nat} {t:TypeId} {cs:Array Value} {l:List α} (hb:Blk w g t cs) (hc:cs.toList=L.all l) (hg:g<B):RowAt L w B (some ⟨g,0,none⟩) l:=by
 refine⟨L.all_len l,fun _=>⟨_,rfl,hg,fun j u hu=>?_⟩⟩;have e:(⟨g,0,none⟩:Addr).add j=⟨g,j,none⟩:=by unfold Addr.add;split<;>simp_all
 rw[e,hb.cell,<-hu,<-hc];simp
open Lib (hid)
set_option maxRecDepth 100000
set_option maxHeartbeats 16000000
namespace Utf
abbrev Str:=List UInt8
def dec (r:Str):Nat×Nat:=
 let b (k:Nat):Nat:=(r.getD k 0).toNat;let cont (k:Nat):Bool:=k<r.length && b k /64==2
 if b 0<0x80 then(b 0,1)
 else if b 0 /32==6 && cont 1 then
  let c:=(b 0%32)*64+b 1%64
  if c>=0x80 then(c,2)else(65533,1)
 else if b 0 /16==14 && cont 1 && cont 2 then
  let c:=(b 0%16)*4096+(b 1%64)*64+b 2%64
  if c>=0x800 && Utf8.valid c then(c,3)else(65533,1)
 else if b 0 /8==30 && cont 1 && cont 2 && cont 3 then
  let c:=(b 0%8)*262144+(b 1%64)*4096+(b 2%64)*64+b 3%64
  if c>=0x10000 && Utf8.valid c then(c,4)else(65533,1)
 else(65533,1)
theorem zsd (s:Str) (j:Nat):((⟨s.toArray⟩:ByteArray).get! j)=s.getD j 0:=by
 show(s.toArray)[j]! =_;rw[List.getElem!_toArray,List.getElem!_eq_getElem?_getD,List.getD_eq_getElem?_getD];rfl
theorem zvb (s:Str) (i:Nat):Utf8.decode ⟨s.toArray⟩ i=dec (s.drop i):=by
 have hb:∀k,(⟨s.toArray⟩:ByteArray).get! (i+k)=(s.drop i).getD k 0:=by
  intro k;rw[zsd,List.getD_eq_getElem?_getD,List.getD_eq_getElem?_getD,List.getElem?_drop]
 have hs:(⟨s.toArray⟩:ByteArray).size=s.length:=by simp[ByteArray.size]
 have hc:∀k,decide (i+k<(⟨s.toArray⟩:ByteArray).size)=decide (k<(s.drop i).length):=by
  intro k;rw[hs,List.length_drop,decide_eq_decide];omega
 unfold Utf8.decode dec;simp only[hb,hc,Utf8.runeError]
def badU:Nat->Str->Nat->Option Nat
 | 0,_,_=>none
 |n+1,r,i=>match r with
  | []=>none
  |_::_=>if(dec r).1=65533/\(dec r).2=1 then some i else badU n (r.drop (dec r).2) (i+(dec r).2)
def bad (s:Str):Option Nat:=badU s.length s 0
theorem zid (r:Str):1<=(dec r).2/\(dec r).2<=4:=by
 unfold dec;simp only
 repeat' split
 all_goals (constructor<;>simp)
theorem dec_len (r:Str) (h:r≠[]):(dec r).2<=r.length:=by
 have h0:0<r.length:=List.length_pos_iff.2 h;unfold dec;simp only
 repeat' split
 all_goals (simp_all<;>omega)
theorem zov (n m:Nat) (r:Str) (i:Nat) (hn:r.length<=n) (hm:r.length<=m):badU n r i=badU m r i:=by
 induction n generalizing m r i with
 |zero=>
  have:r=[]:=List.eq_nil_of_length_eq_zero (by omega);subst this;cases m<;>rfl
 |succ n ih=>
  cases r with
  |nil=>cases m<;>rfl
  |cons c q=>
   cases m with
   |zero=>simp at hm
   |succ m=>
    have hw:=zid (c::q);unfold badU;simp only;split
    ·rfl
    ·exact ih m _ _ (by simp at hn ⊢;omega) (by simp at hm ⊢;omega)
theorem zyv (r:Str):r≠[]->(dec r).2<=r.length:=fun h=>dec_len r h
def badR (r:Str) (i:Nat):Option Nat:=badU r.length r i
theorem zxd (r:Str) (i d n:Nat) (hr:r≠[]) (h:dec r=(d,n)):badR r i=if d=65533/\n=1 then some i else badR (r.drop n) (i+n):=by
 cases r with
 |nil=>exact absurd rfl hr
 |cons c q=>
  unfold badR;show badU (q.length+1) (c::q) i=_;rw[show badU (q.length+1) (c::q) i=if(dec (c::q)).1=65533/\(dec (c::q)).2=1 then some i else badU q.length ((c::q).drop (dec (c::q)).2) (i+(dec (c::q)).2)from rfl,h];split
  ·rfl
  ·have h1:=(zid (c::q)).1;rw[h]at h1;have h1:1<=n:=h1;refine zov _ _ _ _ ?_ (Nat.le_refl _);rw[List.length_drop,List.length_cons];omega
end Utf
open Go.RowKit
theorem zg0 (s:Utf.Str) (a:Nat):(⟨s.toArray⟩:ByteArray).extract a s.length=⟨(s.drop a).toArray⟩:=by
 rw[zas,List.take_of_length_le (by simp)]
def ckVal (o:Option Nat):Value:=match o with
 |some i=>.tuple #[.int .i64 (i:Nat),.int .i64 11]
 |none=>.tuple #[.int .i64 (-1),.int .i64 0]
theorem zdy {B:Nat} {w w':World} (h:Lib.Utf8Tabs 1 2 w) (hb:Below B w w') (hB:3<=B):Lib.Utf8Tabs 1 2 w':=
 ⟨fun c hc=>(hb.cell (by simp;omega)).trans (h.1 c hc),fun i hi=>⟨(hb.cell (by simp;omega)).trans (h.2 i hi).1,(hb.cell (by simp;omega)).trans (h.2 i hi).2⟩⟩
theorem ze2 (s:Utf.Str) (pos d n:Nat) (h:pos<s.length) (hd:Utf.dec (s.drop pos)=(d,n)) (W:World) (hT:Lib.Utf8Tabs 1 2 W):
 Calls prog 91 #[.string ((⟨s.toArray⟩:ByteArray).extract pos s.length)] W fun e w'=>e=.returned (.tuple #[.int .i32 d,.int .i64 n])/\Below W.heap.size W w':=by
 have e0:(⟨s.toArray⟩:ByteArray).extract pos s.length=⟨(s.drop pos).toArray⟩:=by
  rw[zg0]
 rw[e0];refine(utf8_DecodeRuneInString _ W hT).mono ?_;rintro e w' ⟨rfl,hb⟩;have e1:Lib.decodeGo ⟨(s.drop pos).toArray⟩=(d,n):=by
  unfold Lib.decodeGo;rw[if_neg (by simp[ByteArray.size];omega),Utf.zvb,List.drop_zero,hd]
 rw[e1];exact⟨rfl,hb⟩
theorem zg1 (s:Utf.Str) (hs:s.length<=1073741823) (w:World) (hT:Lib.Utf8Tabs 1 2 w) (hw:3<=w.heap.size) (v:Value) (hv:ckVal (Utf.bad s)=v):
 Calls prog 72 #[.string ⟨s.toArray⟩] w fun e w'=>e=.returned v/\Below w.heap.size w w':=by
 have HV:=hid hv;have HT:=hid hT;clear hv hT;go_enter func72,ntmps72;go_wp2_with fail;go_loopw [10] (fun x wr=>∃pos:Nat,pos<=s.length/\wr.heap[w.heap.size]? =some (.stringIter ⟨s.toArray⟩ pos)/\Below w.heap.size w wr/\Hid (Utf.bad s=Utf.badR (s.drop pos) pos)) (fun _ wr=>s.length-wr.iterPos w.heap.size)
 case atStart=>exact⟨0,by omega,World.iter_heap w _ 0,(Below.refl _ _).alloc (Nat.le_refl _) _,hid rfl⟩
 case round=>
  obtain⟨pos,hp,hk,hb,HC⟩:=hrel;have HK:=hid hk;have HBW:=hid hb;by_cases hlt:pos<s.length
  ·obtain⟨d,n,hd⟩:∃d n,Utf.dec (s.drop pos)=(d,n):=⟨_,_,rfl⟩
   have hne:s.drop pos≠[]:=by intro e;have:=congrArg List.length e;simp at this;omega
   have hwd:=Utf.zid (s.drop pos);have hle:=Utf.zyv (s.drop pos) hne;rw[hd]at hwd hle;have hstep:=Utf.zxd (s.drop pos) pos d n hne hd;rw[List.drop_drop]at hstep;have hn1:1<=n:=hwd.1;have hn2:pos+n<=s.length:=by have:n<=(s.drop pos).length:=hle;simp at this;omega
   have hnx:∀ty,(Instr.next (.pointer (some ⟨w.heap.size,0,none⟩)) true ty).run prog wr=.ok (.tuple #[.bool true,.int .i64 pos,.int .i32 d]) (wr.iterAt w.heap.size ⟨s.toArray⟩ (pos+n)):=by
    intro ty;rw[Lib.run_next_any_at wr w.heap.size ⟨s.toArray⟩ pos ty hk (by simp[ByteArray.size];omega),Utf.zvb,hd]
   obtain⟨w2,hw2⟩:=ex (wr.iterAt w.heap.size ⟨s.toArray⟩ (pos+n))
   have hk2:w2.heap[w.heap.size]? =some (.stringIter ⟨s.toArray⟩ (pos+n)):=by rw[<-hw2];exact Lib.iterAt_heap wr _ _ pos _ hk
   have hb2:Below w.heap.size w w2:=by rw[<-hw2];exact Lib.below_iterAt hb (Nat.le_refl _) _ _
   rw[hw2]at hnx;have HK2:=hid hk2;have HB2:=hid hb2;have HST:=hid hstep;have HD:=hid hd;have hsz:w.heap.size<w2.heap.size:=(Array.getElem?_eq_some_iff.1 hk2).1;have hpI:(pos:Int)<=(s.length:Int):=by omega
   have HME:Hid (wr.iterPos w.heap.size=pos):=hid (iterPos_of hk);clear hw2 hk2 hb2 hstep hd hwd hle hne hk hb;by_cases h65:d=65533
   ·have k1:(d:Int)=65533:=by omega
    have HDD:Hid (Utf.dec (s.drop pos)=(65533,n)):=hid (by rw[HD.out,h65]);by_cases hn:n=1
    ·have HX:Hid (ckVal (some pos)=v):=hid (by rw[<-HV.out,HC.out,HST.out,if_pos ⟨h65,hn⟩]);have k2:(n:Int)=1:=by omega
     clear h65 hn;go_wp2_with fail;refine(ze2 s pos 65533 n hlt HDD.out _ (zdy HT.out HB2.out hw)).mono ?_;rintro e w3 ⟨rfl,hb3⟩;have HB3:Hid (Below w.heap.size w w3):=hid (HB2.out.trans (hb3.mono HB2.out.size));clear hb3;go_wp2_with fail;(try refine bodyPost_ret (v:=.tuple #[.int .i64 pos,.int .i64 11]) (by simp[results,results72,go_sem]) rfl ?_);exact⟨by rw[<-HX.out];rfl,HB3.out⟩
    ·have HX:Hid (Utf.bad s=Utf.badR (s.drop (pos+n)) (pos+n)):=hid (by rw[HC.out,HST.out,if_neg (by simp[hn])]);have k2:¬((n:Int)=1):=by omega
     have k2b:((n:Int)==1)=false:=by simpa using k2
     clear h65 hn;go_wp2_with fail;refine(ze2 s pos 65533 n hlt HDD.out _ (zdy HT.out HB2.out hw)).mono ?_;rintro e w3 ⟨rfl,hb3⟩;have HB3:Hid (Below w.heap.size w w3):=hid (HB2.out.trans (hb3.mono HB2.out.size));have HK3:Hid (w3.heap[w.heap.size]? =some (.stringIter ⟨s.toArray⟩ (pos+n))):=hid ((hb3.block _ hsz).trans HK2.out);clear hb3;go_wp2;go_roundw
     case rel=>exact⟨pos+n,hn2,HK3.out,HB3.out,HX⟩
     case measure=>rw[iterPos_of HK3.out,HME.out];omega
   ·have k1:¬((d:Int)=65533):=by omega
    have k1b:((d:Int)==65533)=false:=by simpa using k1
    have HX:Hid (Utf.bad s=Utf.badR (s.drop (pos+n)) (pos+n)):=hid (by rw[HC.out,HST.out,if_neg (by simp[h65])]);go_wp2;go_roundw
    case rel=>exact⟨pos+n,hn2,HK2.out,HB2.out,HX⟩
    case measure=>rw[iterPos_of HK2.out,HME.out];omega
  ·have hnx:∀ty,(Instr.next (.pointer (some ⟨w.heap.size,0,none⟩)) true ty).run prog wr=.ok (.tuple #[.bool false]) wr:=fun ty=>Lib.run_next_end_at wr w.heap.size ⟨s.toArray⟩ pos ty hk (by simp[ByteArray.size];omega)
   have HX:Hid (ckVal none=v):=hid (by rw[<-HV.out,HC.out,List.drop_eq_nil_of_le (by omega)];rfl);clear hk hb;go_wp2_with fail;(try refine bodyPost_ret (v:=.tuple #[.int .i64 (-1),.int .i64 0]) (by simp[results,results72,go_sem]) rfl ?_);exact⟨by rw[<-HX.out];rfl,HBW.out⟩
theorem ze3 {w w':World} (hb:Below w.heap.size w w') {a:Addr} {v:Value} (hc:w.cell? a=some v):w'.cell? a=some v:=(hb.cell (World.block_lt_of_cell? w a hc)).trans hc
theorem zse {P:Program} {n:String} {g:Nat} {k:IntKind} {zs:List Int} {w w':World} (hg:P.globalNamed n=some g) (h:Lib.TabIs P w n k zs) (hb:Below w.heap.size w w'):Lib.TabIs P w' n k zs:=by
 unfold Lib.TabIs World.var? at h ⊢;rw[hg]at h ⊢;simp only[Option.bind_some]at h ⊢;have hlt:g<w.heap.size:=by
  rcases Nat.lt_or_ge g w.heap.size with h'|h'
  ·exact h'
  ·rw[Array.getElem?_eq_none h']at h;cases h
 rw[hb.block g hlt];exact h
def Stays (T:World->Prop):Prop:=∀w w',T w->Below w.heap.size w w'->T w'
structure UT (w:World):Prop where
 utf:Lib.Utf8Tabs 1 2 w
 sz:3<=w.heap.size
 pow:Lib.TabIs Tryz.prog w "internal/strconv.uint64pow10" .u64 Lib.pow10Tab
 bru:TabAt 6 Lib.deBruijn64tab w
 es:∃te p,w.cell? ⟨4,0,none⟩=some (.iface te p)
 er:∃te p,w.cell? ⟨5,0,none⟩=some (.iface te p)
theorem UT.stays:Stays UT:=fun w w' h hb=>by
 refine⟨zdy h.utf (hb.mono h.sz) (Nat.le_refl _),Nat.le_trans h.sz hb.size,zse (show Tryz.prog.globalNamed "internal/strconv.uint64pow10" =some 7 by kernel_rfl) h.pow hb,fun j hj=>ze3 hb (h.bru j hj),?_,?_⟩
 ·obtain⟨te,p,h1⟩:=h.es;exact⟨te,p,ze3 hb h1⟩
 ·obtain⟨te,p,h1⟩:=h.er;exact⟨te,p,ze3 hb h1⟩
section
variable {P:Program} {ops:Array Oper} {md:Region.Mode}
def nopOf (o:Oper):Oper:={o with op:=.move (.const (.bool false)),dst:=none}
def zhf (md:Region.Mode) (ops:Array Oper):Bool:=(List.range ops.size).all fun j=>((ops[j]?).map (·.after.all fun e=>!Region.binds md e || decide (e.on<j))).getD true
def apartB (ops:Array Oper):Bool:=(List.range ops.size).all fun i=>(List.range ops.size).all fun j=>decide (i=j) || match ops[i]?.bind (·.dst),ops[j]?.bind (·.dst)with
 |some a,some b=>decide (a≠b)
 |_,_=>true
def waitsB (md:Region.Mode) (ops:Array Oper) (s:Nat) (d:Tmp):Bool:=(List.range ops.size).all fun j=>!(decide (ops[j]?.bind (·.dst)=some d)) || Region.waitsFor md ops s j
theorem zs0 {i j:Nat} {a:Tmp} (h:apartB ops=true) (hi:i<ops.size) (hj:j<ops.size) (hne:i≠j) (ha:ops[i]?.bind (·.dst)=some a):ops[j]?.bind (·.dst)≠some a:=by
 intro hb;have h1:=List.all_eq_true.1 (List.all_eq_true.1 h i (List.mem_range.2 hi)) j (List.mem_range.2 hj);rw[ha,hb]at h1;simp[hne]at h1
theorem zhg {C:World->Prop} {aF:Act} {d:Tmp}:∀(fuel:Nat) (listed:Array Bool) (a:Act),(∀j,listed.getD j true=false->ops[j]?.bind (·.dst)≠some d)->
 wpAnyQ P md ops C (fun a'=>a'=aF) fuel listed a->a.tmps[d]? =aF.tmps[d]?
 | 0,_,_,_,h=>by rw[h.2]
 |fuel+1,listed,a,hd,h=>by
  cases hr:Region.ready md ops listed with
  |nil=>rw[h.1 hr]
  |cons i l=>
   have hi:i∈Region.ready md ops listed:=by rw[hr];exact .head _
   obtain⟨hun,o,ho,_⟩:=mem_ready.1 hi;have hnd:o.dst≠some d:=by have:=hd i hun;rwa[ho]at this
   have hd':∀j,(listed.setIfInBounds i true).getD j true=false->ops[j]?.bind (·.dst)≠some d:=by
    intro j hj;by_cases hij:i=j
    ·subst hij;rw[ho];exact hnd
    ·simp_all
   have key:∀v,wpAnyQ P md ops C (fun a'=>a'=aF) fuel (listed.setIfInBounds i true) (a.put o.dst v)->a.tmps[d]? =aF.tmps[d]? :=by
    intro v hv;have:=zhg fuel _ _ hd' hv;rw[<-this];unfold Act.put;cases hod:o.dst with
    |none=>rfl
    |some d2=>
     grind
   have h2:=h.2 i hi;unfold qOp at h2;simp only[ho]at h2;split at h2
   ·obtain⟨v,_,hv⟩:=h2;exact key v hv
   ·exact key _ h2
theorem zs1 {a:Act} {dst:Option Tmp} {u v:Value} (h:∀d,dst=some d->(a.put dst u).tmps[d]? =(a.put dst v).tmps[d]?):a.put dst u=a.put dst v:=by
 cases dst with
 |none=>rfl
 |some d=>
  have h1:=h d rfl;unfold Act.put at h1 ⊢;simp only at h1 ⊢;by_cases hd:d<a.tmps.size
  ·grind
  ·rw[Array.setIfInBounds_eq_of_size_le (Nat.not_lt.1 hd),Array.setIfInBounds_eq_of_size_le (Nat.not_lt.1 hd)]
theorem zmw {listed:Array Bool} (he:zhf md ops=true) (hsz:listed.size=ops.size) (hr:Region.ready md ops listed=[]):∀j,j<ops.size->listed.getD j false=true:=by
 intro j
 induction j using Nat.strongRecOn with
 |_ j ih=>
  intro hj;cases hl:listed.getD j false with
  |true=>rfl
  |false=>
   exfalso;have h1:j∈Region.ready md ops listed:=by
    rw[mem_ready];refine⟨getD_in (by omega) hl,ops[j],Array.getElem?_eq_getElem hj,fun e hee hb=>?_⟩;have h2:=List.all_eq_true.1 he j (List.mem_range.2 hj);rw[Array.getElem?_eq_getElem hj]at h2;simp only[Option.map_some,Option.getD_some]at h2;have h3:=Array.all_eq_true'.1 h2 e hee;simp only[hb,Bool.not_true,Bool.false_or,decide_eq_true_eq]at h3;exact ih e.on h3 (by omega)
   rw[hr]at h1;cases h1
variable {s:Nat} {os:Oper} {D:Bool->World->Prop} {aF:Act} {Q:Exit->Act->World->Prop}
theorem zp3 (_hs:ops[s]? =some os) {j:Nat} (hne:j≠s):(ops.setIfInBounds s (nopOf os))[j]? =ops[j]? :=Array.getElem?_setIfInBounds_ne (Ne.symm hne)
theorem zhh (hs:ops[s]? =some os):(ops.setIfInBounds s (nopOf os))[s]? =some (nopOf os):=Array.getElem?_setIfInBounds_self_of_lt (Array.getElem?_eq_some_iff.1 hs).1
theorem zj0 (hs:ops[s]? =some os) (hd:os.dst=none) (j:Nat):(ops.setIfInBounds s (nopOf os))[j]?.bind (·.dst)=ops[j]?.bind (·.dst):=by
 by_cases h:j=s
 ·subst h;rw[zhh hs,hs];simp[nopOf,hd]
 ·rw[zp3 hs h]
theorem zj1 (hs:ops[s]? =some os) (hd:os.dst=none) (t:Array Value):yielded (ops.setIfInBounds s (nopOf os)) t=yielded ops t:=by
 funext j
 unfold yielded;rw[zj0 hs hd]
theorem zin (hs:ops[s]? =some os) (listed:Array Bool) (i:Nat):i∈Region.ready md (ops.setIfInBounds s (nopOf os)) listed↔i∈Region.ready md ops listed:=by
 rw[mem_ready,mem_ready];by_cases h:i=s
 ·subst h;rw[zhh hs,hs];constructor
  ·rintro⟨a,o,ho,b⟩;injection ho with ho
   subst ho;exact⟨a,os,rfl,b⟩
  ·rintro⟨a,o,ho,b⟩;injection ho with ho
   subst ho;exact⟨a,_,rfl,b⟩
 ·rw[zp3 hs h]
theorem zp4 {p q:Tmp} {ty:TypeId} (hs:ops[s]? =some os) (hd:os.dst=none) (hg:os.guard=none) (hop:os.op=.store ty (.tmp p) (.tmp q)) (he:zhf md ops=true) (hap:apartB ops=true) (hp:waitsB md ops s p=true) (hq:waitsB md ops s q=true)
 (hst:∀w,D false w->∃w',(execOp aF.eval os).run P w=.ok .skip w'/\D true w') (hend:∀w,D true w->Q .normal aF w):
 ∀(fuel:Nat) (listed:Array Bool) (a:Act) (w:World),listed.size=ops.size->(∀b,wpAnyQ P md (ops.setIfInBounds s (nopOf os)) (D b) (fun a'=>a'=aF) fuel listed a)->D (listed.getD s false) w->wpAny P md ops Q fuel listed a w:=by
 have hsz:s<ops.size:=(Array.getElem?_eq_some_iff.1 hs).1;have hdone:∀(listed:Array Bool) (w:World),listed.size=ops.size->Region.ready md ops listed=[]->D (listed.getD s false) w->D true w:=fun listed w h1 h2 h3=>by
  rwa[zmw he h1 h2 s hsz]at h3
 have hrd:∀listed,Region.ready md (ops.setIfInBounds s (nopOf os)) listed=[]↔Region.ready md ops listed=[]:=fun listed=>by
  rw[List.eq_nil_iff_forall_not_mem,List.eq_nil_iff_forall_not_mem];exact forall_congr' (fun i=>not_congr (zin hs listed i))
 intro fuel
 induction fuel with
 |zero=>
  intro listed a w h1 h2 h3;have h4:=h2 true;refine⟨(hrd listed).1 h4.1,?_⟩;rw[h4.2];exact hend w (hdone listed w h1 ((hrd listed).1 h4.1) h3)
 |succ fuel ih=>
  intro listed a w h1 h2 h3;refine⟨fun hr=>?_,fun i hi=>?_⟩
  ·rw[(h2 true).1 ((hrd listed).2 hr)];exact hend w (hdone listed w h1 hr h3)
  ·obtain⟨hun,o,ho,hall⟩:=mem_ready.1 hi;have hisz:i<ops.size:=(Array.getElem?_eq_some_iff.1 ho).1;have hi':=(zin (md:=md) hs listed i).2 hi;have hsz':(listed.setIfInBounds i true).size=ops.size:=by simpa using h1
   by_cases his:i=s
   ·subst his;obtain rfl:o=os:=Option.some.inj (ho.symm.trans hs);have hnx:∀b,wpAnyQ P md (ops.setIfInBounds i (nopOf o)) (D b) (fun a'=>a'=aF) fuel (listed.setIfInBounds i true) a:=fun b=>by
     have h4:=(h2 b).2 i hi';unfold qOp at h4;rw[zhh hs]at h4;simp only at h4;rw[if_pos (show Region.wanted (nopOf o) _=true by simp[Region.wanted,nopOf,hg])]at h4;obtain⟨v,_,hv⟩:=h4;exact hv
    have hslot:∀d,waitsB md ops i d=true->a.tmps[d]? =aF.tmps[d]? :=fun d hwd=>by
     refine zhg (C:=D true) fuel _ a (fun j hj hjd=>?_) (hnx true);rw[zj0 hs hd]at hjd;have hjs:j<ops.size:=by
      grind
     have h5:=List.all_eq_true.1 hwd j (List.mem_range.2 hjs);rw[decide_eq_true hjd]at h5;simp only[Bool.not_true,Bool.false_or]at h5;obtain⟨oj,hoj,e,hee,heb,heo⟩:=Region.waitsFor_spec h5;obtain rfl:oj=o:=Option.some.inj (hoj.symm.trans ho);have h6:=hall e hee heb;rw[heo]at h6;by_cases hij:i=j
     ·grind
     ·simp_all
    have hfl:listed.getD i false=false:=getD_both hun;rw[hfl]at h3;obtain⟨w',hrun,hD⟩:=hst w h3;have hev:execOp a.eval o=execOp aF.eval o:=by
     have e1:a.eval (.tmp p)=aF.eval (.tmp p):=by
      show a.tmps.getD p undef=aF.tmps.getD p undef;rw[Array.getD_eq_getD_getElem?,Array.getD_eq_getD_getElem?,hslot p hp]
     have e2:a.eval (.tmp q)=aF.eval (.tmp q):=by
      show a.tmps.getD q undef=aF.tmps.getD q undef;rw[Array.getD_eq_getD_getElem?,Array.getD_eq_getD_getElem?,hslot q hq]
     unfold execOp;rw[hop];simp only[e1,e2]
    unfold wpOp;rw[ho];simp only[Region.wanted,hg,if_true];left;unfold Oper.wp;rw[hev,hrun];show wpAny P md ops Q fuel (listed.setIfInBounds i true) (a.put o.dst undef) w';rw[hd];refine ih _ a w' hsz' hnx ?_;rw[show(listed.setIfInBounds i true).getD i false=true from by
     have:i<listed.size:=by omega
     simp[this]]
    exact hD
   ·have hfl:(listed.setIfInBounds i true).getD s false=listed.getD s false:=getD_set_ne false his;have hoi':(ops.setIfInBounds s (nopOf os))[i]? =some o:=by rw[zp3 hs his,ho]
    have hnext:∀b,(if Region.wanted o (yielded ops a.tmps)then o.quiet P a (D b) (wpAnyQ P md (ops.setIfInBounds s (nopOf os)) (D b) (fun a'=>a'=aF) fuel (listed.setIfInBounds i true))else wpAnyQ P md (ops.setIfInBounds s (nopOf os)) (D b) (fun a'=>a'=aF) fuel (listed.setIfInBounds i true) (a.put o.dst undef)):=fun b=>by
     have h4:=(h2 b).2 i hi';unfold qOp at h4;rw[hoi']at h4;simp only[zj1 hs hd]at h4;exact h4
    unfold wpOp;rw[ho];simp only;by_cases hw:Region.wanted o (yielded ops a.tmps)=true
    ·rw[if_pos hw];left;simp only[hw,if_true]at hnext;have hval:∀(b b':Bool) (v v':Value),wpAnyQ P md (ops.setIfInBounds s (nopOf os)) (D b) (fun a'=>a'=aF) fuel (listed.setIfInBounds i true) (a.put o.dst v)->wpAnyQ P md (ops.setIfInBounds s (nopOf os)) (D b') (fun a'=>a'=aF) fuel (listed.setIfInBounds i true) (a.put o.dst v')->a.put o.dst v=a.put o.dst v':=fun b b' v v' k1 k2=>by
      refine zs1 (fun d hod=>?_);have hfree:∀j,(listed.setIfInBounds i true).getD j true=false->(ops.setIfInBounds s (nopOf os))[j]?.bind (·.dst)≠some d:=fun j hj=>by
       rw[zj0 hs hd];have hij:i≠j:=by
        rintro rfl;have:i<listed.size:=by omega
        simp[this]at hj
       by_cases hjs:j<ops.size
       ·exact zs0 hap hisz hjs hij (by rw[ho];exact hod)
       ·grind
      rw[zhg fuel _ _ hfree k1,zhg fuel _ _ hfree k2]
     obtain⟨v,hv,hk⟩:=hnext (listed.getD s false);refine Oper.wp_of_quiet (C:=D (listed.getD s false)) (K:=fun a'=>∀b,wpAnyQ P md (ops.setIfInBounds s (nopOf os)) (D b) (fun a''=>a''=aF) fuel (listed.setIfInBounds i true) a') h3 (fun a' w' hw' hk'=>ih _ a' w' hsz' hk' (by rw[hfl];exact hw')) ⟨v,hv,fun b=>?_⟩;obtain⟨v',_,hk'⟩:=hnext b;rw[hval _ _ v v' hk hk'];exact hk'
    ·grind
theorem za9 {id:Nat} {l:List Oper} {a:Act} {w:World} {p q:Tmp} {ty:TypeId} (s:Nat) (hm:P.follows .mixedOrders=true) (l':List Oper) (hs:l.toArray[s]? =some os) (hl':l'=l.set s (nopOf os)) (hd:os.dst=none) (hg:os.guard=none) (hop:os.op=.store ty (.tmp p) (.tmp q))
 (hB:Region.lexB .any l'.toArray=true) (he:zhf .any l.toArray=true) (hap:apartB l.toArray=true) (hp:waitsB .any l.toArray s p=true) (hq:waitsB .any l.toArray s q=true) (D:Bool->World->Prop) (hD:D false {w with drawn:=w.drawn+1})
 (h:∀b,wpQuiet P l'.toArray (D b) (fun a'=>a'=aF) l' a)
 (hst:∀w,D false w->∃w',(execOp aF.eval os).run P w=.ok .skip w'/\D true w') (hend:∀w,D true w->Q .normal aF w):(Code.region id l.toArray true).wp P Q a w:=by
 simp only[Region.lexB,Bool.and_eq_true]at hB;have e:l.toArray.setIfInBounds s (nopOf os)=l'.toArray:=by rw[hl'];simp
 have hsz:l'.length=l.toArray.size:=by rw[hl'];simp
 refine wp_region_any hm ?_;have hsl:s<l.toArray.size:=(Array.getElem?_eq_some_iff.1 hs).1;refine zp4 hs hd hg hop he hap hp hq hst hend _ _ a _ (by simp) (fun b=>?_) (by rw[getD_replicate_false];exact hD);rw[e,<-hsz];have:=wpAnyQ_lex (C:=D b) (md:=.any) hB.1 l' 0 (Array.replicate l'.length false) a (by simp) (by simpa using hB.2) (h b);exact this
end
structure WL (g:Nat) (t:TypeId) (w0:World) (cs:Array Value) where
 w:World
 h:KB g w0 w
 hc:Blk w g t cs
theorem Calls.late {P:Program} {f:FuncId} {args:Array Value} {g:Nat} {t:TypeId} {w0:World} {cs:Array Value} {x:WL g t w0 cs} {v:Value} (h:Calls P f args x.w fun e w'=>e=.returned v/\Below x.w.heap.size x.w w'):
 Calls P f args x.w fun e w''=>e=.returned v/\∃y:WL g t w0 cs,w''=y.w:=h.mono fun _ _ ⟨he,hb⟩=>⟨he,⟨_,x.h.trans (KB.of_below hb),x.hc.below hb x.hc.lt⟩,rfl⟩
def tl:Nat->Code->Code
 | 0,c=>c
 |n+1,.seq _ b=>tl n b
 |_+1,c=>c
end Go.Proofs.YtoigpackhninoaaGreatDoor

import Derived.Test.YtpgmfihonmoliaaGreatDoorRows
import Derived.WalkSpells
import Derived.WalkLawsBesides
import Derived.Handy
import Derived.Deep.AppendLies
import Derived.BigQuiet
import Derived.Deep.Fields
import Derived.Shelf.Strings.Trim
import Derived.Shelf.Small.Utf8
import Derived.Shelf.Small.Wraps
import Derived.Shelf.Strconv.Itoa3
import Derived.Shelf.Strconv.ErrVarAll
import Derived.Shelf.Pu.ParseUintPublic10
import Derived.Shelf.Strings.Shaped
import Derived.Shelf.Strings.Runes
import Derived.Shelf.Strings.AsciiSet
import Derived.Shelf.Strings.Repeat
import Derived.Shelf.Unicode.DecodeAny
import Derived.Shelf.Strings.BuilderCap
import Derived.Lib.TrailingZeros
namespace Go.Proofs.YtpgmfihonmoliaaGreatDoor
open Go.RowKit
theorem zr3 {a b:Bool} (h:a=b):Ending.returned (.bool a)=.returned (.bool b):=by rw[h]
theorem zn0 {k:IntKind} {a b:Int} (h:a=b):Ending.returned (.int k a)=.returned (.int k b):=by rw[h]
theorem zcs {B:Nat} {w wr w1:World} (h:Below B w wr) (hz:B<=wr.heap.size) (h1:Below wr.heap.size wr w1):Below B w w1:=h.trans (h1.mono hz)
theorem zbe (a:Addr) (n:Nat):(a.add n).block=a.block:=by unfold Addr.add;split<;>rfl
theorem zft (a:Addr) (i j:Nat):(a.add i).add j=a.add (i+j):=by
 unfold Addr.add;by_cases hi:i=0<;>by_cases hj:j=0<;>simp[hi,hj,Nat.add_assoc]
def Reads (w:World) (B size:Nat) (A:Option Addr) (n:Nat) (xs:List Value):Prop:=
 xs.length=n*size/\(0<n->∃ad,A=some ad/\ad.block<B/\∀j u,xs[j]? =some u->w.cell? (ad.add j)=some u)
section
variable {w w':World} {B B' size n:Nat} {A:Option Addr} {xs:List Value}
theorem Reads.none_:Reads w B size A 0 []:=⟨by simp,fun h=>absurd h (by omega)⟩
theorem Reads.at_ {k:Nat} (h:Reads w B 1 A n xs) (hk:k<n):∃ad u,A=some ad/\ad.block<B/\xs[k]? =some u/\w.cell? (ad.add k)=some u:=by
 obtain⟨ad,e,hb,hc⟩:=h.2 (by omega);have hl:k<xs.length:=by have:=h.1;omega
 exact⟨ad,xs[k],e,hb,List.getElem?_eq_getElem hl,hc k _ (List.getElem?_eq_getElem hl)⟩
theorem Reads.keep (h:Reads w B size A n xs) (hk:∀p:Addr,p.block<B->w'.cell? p=w.cell? p):Reads w' B size A n xs:=
 ⟨h.1,fun hn=>by
  obtain⟨ad,e,hb,hc⟩:=h.2 hn;exact⟨ad,e,hb,fun j u hu=>(hk _ (by rw[zbe];exact hb)).trans (hc j u hu)⟩⟩
theorem Reads.more (h:Reads w B size A n xs) (hB:B<=B'):Reads w B' size A n xs:=
 ⟨h.1,fun hn=>by
  obtain⟨ad,e,hb,hc⟩:=h.2 hn;exact⟨ad,e,by omega,hc⟩⟩
theorem Reads.below (h:Reads w B size A n xs) (hb:Below B w w'):Reads w' B size A n xs:=h.keep fun _ hp=>hb.cell hp
theorem Reads.drew (h:Reads w B size A n xs):Reads w.drew B size A n xs:=h
theorem Reads.drewN (h:Reads w B size A n xs) (k:Nat):Reads (w.drewN k) B size A n xs:=h
theorem Reads.alloc (h:Reads w B size A n xs) (hB:B<=w.heap.size) (o:Obj):Reads (w.alloc o) B size A n xs:=h.keep fun p hp=>World.cell?_alloc_lt w o p (by omega)
theorem Reads.setCell (h:Reads w B size A n xs) {p:Addr} (hB:B<=p.block) (u:Value):Reads (w.setCell p u) B size A n xs:=
 h.keep fun q hq=>World.cell?_setCell_other w p q u (fun e=>by subst e;omega)
theorem Reads.grown (h:Reads w B size A n xs) {row:Option Nat} (hg:w.grownBy w' row) (hB:B<=w.heap.size) (hr:∀g,row=some g->B<=g):Reads w' B size A n xs:=
 h.keep fun p hp=>World.cell?_of_block (hg.block p.block (by omega) (fun e=>by have:=hr _ e.symm;omega))
theorem Reads.cut (h:Reads w B size A n xs) {k cap:Nat} (hk:k<=n) (hc:n<=cap):
 Reads w B size (if cap=k then A else A.map (·.add (k*size))) (n-k) (xs.drop (k*size)):=by
 refine⟨by rw[List.length_drop,h.1,Nat.sub_mul],fun hn=>?_⟩;obtain⟨ad,rfl,hb,hcell⟩:=h.2 (by omega);rw[if_neg (by omega)];refine⟨ad.add (k*size),rfl,by rw[zbe];exact hb,fun j u hu=>?_⟩;rw[zft];exact hcell _ u (by rw[<-hu,List.getElem?_drop])
theorem Reads.of_own {base:Nat} {e:TypeId} {c:Nat} (h:w.ownsRow base e size (.slice A n c) n xs):Reads w w.heap.size size A n xs:=by
 refine⟨h.1,fun hn=>?_⟩;obtain⟨g,cap,hv,_,hlt⟩:=h.form hn;have hA:A=some ⟨g,0,none⟩:=by injection hv
 subst hA;exact⟨_,rfl,hlt,h.cells (g:=g) rfl⟩
end
def Blk (w:World) (g:Nat) (t:TypeId) (cs:Array Value):Prop:=w.heap[g]? =some (.cells cs t (0,0))
section
variable {w w':World} {g:Nat} {t:TypeId} {cs:Array Value}
theorem Blk.lt (h:Blk w g t cs):g<w.heap.size:=by
 rcases Nat.lt_or_ge g w.heap.size with hlt|hge
 .exact hlt
 .unfold Blk at h;rw[Array.getElem?_eq_none hge]at h;cases h
theorem Blk.cell (h:Blk w g t cs) (i:Nat):w.cell? ⟨g,i,none⟩=cs[i]? :=cell_of_row w g i cs t (0,0) h
theorem Blk.frozen (h:Blk w g t cs) (i:Nat):w.frozen? ⟨g,i,none⟩=false:=by
 unfold Blk at h;simp[World.frozen?,h]
theorem Blk.new (w:World) (t:TypeId) (cs:Array Value):Blk (w.alloc (.cells cs t)) w.heap.size t cs:=heap_alloc_new w _
theorem Blk.drew (h:Blk w g t cs):Blk w.drew g t cs:=h
theorem Blk.drewN (h:Blk w g t cs) (n:Nat):Blk (w.drewN n) g t cs:=h
theorem Blk.alloc (h:Blk w g t cs) (o:Obj):Blk (w.alloc o) g t cs:=(Below.heap_alloc w o g h.lt).trans h
theorem Blk.set_ (h:Blk w g t cs) (i:Nat) (u:Value):Blk (w.setCell ⟨g,i,none⟩ u) g t (cs.setIfInBounds i u):=by
 unfold Blk at h ⊢;simp[World.setCell,Array.getElem?_modify,h]
theorem Blk.far (h:Blk w g t cs) {p:Addr} (hp:g≠p.block) (u:Value):Blk (w.setCell p u) g t cs:=(Below.heap_setCell w p u g hp).trans h
theorem Blk.below {B:Nat} (h:Blk w g t cs) (hb:Below B w w') (hg:g<B):Blk w' g t cs:=(hb.block g hg).trans h
theorem Blk.grown {row:Option Nat} (h:Blk w g t cs) (hb:w.grownBy w' row) (hg:some g≠row):Blk w' g t cs:=(hb.block g h.lt hg).trans h
theorem Blk.ne_ {g':Nat} {t':TypeId} {cs':Array Value} (h:Blk w g t cs) (h':Blk w g' t' cs') (hne:t≠t'):g≠g':=by
 rintro rfl;unfold Blk at h h';rw[h]at h';injection h' with h'
 injection h' with _ ht
 exact hne ht
theorem zby {base:Nat} {e:TypeId} {size n:Nat} {v:Value} {xs:List Value} (h:w.ownsRow base e size v n xs) (hg:Blk w g t cs) (hne:e≠t):v.ownBlock≠some g:=by
 rcases h.2 with⟨rfl,_⟩|⟨g',cap,cur,rfl,_,hh,_⟩
 .simp[Value.ownBlock]
 .intro he;have:g'=g:=by simpa[Value.ownBlock]using he
  subst this;exact Blk.ne_ (t:=e) hh hg hne rfl
end
section
variable {P:Program} (w:World)
theorem zds (base:Nat) (t ty e:TypeId) (i:TypeInfo) (size:Nat) (ht:P.underlying t=some (.slice e)) (hi:P.info? e=some i)
 (v:Value) (n:Nat) (xs:List Value) (hown:w.ownsRow base e size v n xs) (c:Nat):(Builtin.append_ #[t,t] ty #[v,.slice none 0 c]).run P w=.ok v w:=by
 rcases hown.2 with⟨rfl,rfl⟩|⟨g,cap,cur,rfl,_,_,hnc,_⟩
 .simp[Builtin.append_,run_underlying ht,sizeOf,typeInfo,hi,Builtin.lenOf,Builtin.firstCells]
 .simp[Builtin.append_,run_underlying ht,sizeOf,typeInfo,hi,Builtin.lenOf,Builtin.firstCells,hnc,storeCells]
theorem zfm (base:Nat) (t ty e:TypeId) (i:TypeInfo) (z:Value) (size bytes:Nat) (ht:P.underlying t=some (.slice e)) (hi:P.info? e=some i) (hz:i.zero=some z)
 (hsize:i.size=size) (hby:i.bytes=bytes) (hzs:z.cells.size=size) (hsz:0<size)
 (v:Value) (n:Nat) (xs:List Value) (hown:w.ownsRow base e size v n xs)
 (B:Nat) (A:Option Addr) (m c:Nat) (news:List Value) (hr:Reads w B size A m news) (h1:∀u∈news,u.oneCell'=true)
 (h63:n+m<=maxLen) (hbytes:(n+m)*bytes<=140737488355328) (hbase:base<=w.heap.size):
 ∃v' w',(Builtin.append_ #[t,t] ty #[v,.slice A m c]).run P w=.ok v' w'/\w'.ownsRow base e size v' (n+m) (xs++news)/\w.grownBy w' v.ownBlock/\
  (v'.ownBlock=v.ownBlock\/v'.ownBlock=some w.heap.size):=by
 rcases A with _|ad
 .have hm:m=0:=by
   rcases Nat.eq_zero_or_pos m with h0|h0
   .exact h0
   .obtain⟨ad,h,_⟩:=hr.2 h0;cases h
  subst hm;have hn:news=[]:=List.eq_nil_of_length_eq_zero (by simpa using hr.1);subst hn;exact⟨v,w,zds w base t ty e i size ht hi v n xs hown c,by simpa using hown,World.grownBy.refl w _,.inl rfl⟩
 .have hcells:∀j u,news[j]? =some u->w.cell? (ad.add j)=some u:=by
   intro j u hu;rcases Nat.eq_zero_or_pos m with h0|h0
   .subst h0;have hn:news=[]:=List.eq_nil_of_length_eq_zero (by simpa using hr.1);subst hn;simp at hu
   .obtain⟨ad',h,_,hc⟩:=hr.2 h0;injection h with h
    subst h;exact hc j u hu
  obtain⟨v',w',hrun,h2,h3,_,h5⟩:=run_append_own_at (P:=P) w base t ty e i z size bytes ht hi hz hsize hby hzs hsz v n xs hown ad m c news hr.1 hcells h1 h63 hbytes hbase;exact⟨v',w',hrun,h2,h3,h5⟩
theorem zdg {o:Oper} {a:Act} {K:Act->World->Prop} {Q:Exit->Act->World->Prop} (s x:Operand) (t:TypeId)
 (ho:o.op=.call {callee:=.builtin .append,args:=#[s,x],argTypes:=#[t,t]})
 (base:Nat) (e:TypeId) (i:TypeInfo) (z:Value) (size bytes:Nat) (ht:P.underlying t=some (.slice e)) (hi:P.info? e=some i) (hz:i.zero=some z)
 (hsize:i.size=size) (hby:i.bytes=bytes) (hzs:z.cells.size=size) (hsz:0<size)
 (v:Value) (n:Nat) (xs:List Value) (hs:a.eval s=v) (hown:w.ownsRow base e size v n xs)
 (B:Nat) (A:Option Addr) (m c:Nat) (news:List Value) (hx:a.eval x=.slice A m c) (hr:Reads w B size A m news) (h1:∀u∈news,u.oneCell'=true)
 (h63:n+m<=maxLen) (hbytes:(n+m)*bytes<=140737488355328) (hbase:base<=w.heap.size)
 (h:∀v' w',w'.ownsRow base e size v' (n+m) (xs++news)->w.grownBy w' v.ownBlock->(v'.ownBlock=v.ownBlock\/v'.ownBlock=some w.heap.size)->K (a.put o.dst v') w'):o.wp P a w K Q:=by
 obtain⟨v',w',hrun,h2,h3,h4⟩:=zfm (P:=P) w base t o.type e i z size bytes ht hi hz hsize hby hzs hsz v n xs hown B A m c news hr h1 h63 hbytes hbase;unfold Oper.wp execOp;simp only[ho,resolve,invoke,builtin,Sem.run_bind,Sem.run_pure,Result.andThen_ok,List.map_toArray,List.map_cons,List.map_nil,hs,hx,hrun];exact h v' w' h2 h3 h4
theorem zdt {ops:Array Oper} {rest:List Oper} {o:Oper} {a:Act} {Q:Exit->Act->World->Prop} (hgd:o.guard=none) (s x:Operand) (t:TypeId)
 (ho:o.op=.call {callee:=.builtin .append,args:=#[s,x],argTypes:=#[t,t]})
 (base:Nat) (e:TypeId) (i:TypeInfo) (z:Value) (size bytes:Nat) (ht:P.underlying t=some (.slice e)) (hi:P.info? e=some i) (hz:i.zero=some z)
 (hsize:i.size=size) (hby:i.bytes=bytes) (hzs:z.cells.size=size) (hsz:0<size)
 (v:Value) (n:Nat) (xs:List Value) (hs:a.eval s=v) (hown:w.ownsRow base e size v n xs)
 (B:Nat) (A:Option Addr) (m c:Nat) (news:List Value) (hx:a.eval x=.slice A m c) (hr:Reads w B size A m news) (h1:∀u∈news,u.oneCell'=true)
 (h63:n+m<=maxLen) (hbytes:(n+m)*bytes<=140737488355328) (hbase:base<=w.heap.size)
 (h:∀v' w',w'.ownsRow base e size v' (n+m) (xs++news)->w.grownBy w' v.ownBlock->(v'.ownBlock=v.ownBlock\/v'.ownBlock=some w.heap.size)->wpList P ops Q rest (a.put o.dst v') w'):wpList P ops Q (o::rest) a w:=
 wpList_plain hgd fun _ hK=>zdg w s x t ho base e i z size bytes ht hi hz hsize hby hzs hsz v n xs hs hown B A m c news hx hr h1 h63 hbytes hbase fun v' w' h2 h3 h4=>hK _ _ (h v' w' h2 h3 h4)
theorem zep {ops:Array Oper} {o:Oper} {a:Act} {K:Act->World->Prop} {Q:Exit->Act->World->Prop} {E:Prop} (hgd:o.guard=none) (s x:Operand) (t:TypeId)
 (ho:o.op=.call {callee:=.builtin .append,args:=#[s,x],argTypes:=#[t,t]})
 (base:Nat) (e:TypeId) (i:TypeInfo) (z:Value) (size bytes:Nat) (ht:P.underlying t=some (.slice e)) (hi:P.info? e=some i) (hz:i.zero=some z)
 (hsize:i.size=size) (hby:i.bytes=bytes) (hzs:z.cells.size=size) (hsz:0<size)
 (v:Value) (n:Nat) (xs:List Value) (hs:a.eval s=v) (hown:w.ownsRow base e size v n xs)
 (B:Nat) (A:Option Addr) (m c:Nat) (news:List Value) (hx:a.eval x=.slice A m c) (hr:Reads w B size A m news) (h1:∀u∈news,u.oneCell'=true)
 (h63:n+m<=maxLen) (hbytes:(n+m)*bytes<=140737488355328) (hbase:base<=w.heap.size)
 (h:∀v' w',w'.ownsRow base e size v' (n+m) (xs++news)->w.grownBy w' v.ownBlock->(v'.ownBlock=v.ownBlock\/v'.ownBlock=some w.heap.size)->K (a.put o.dst v') w'):
 if Region.wanted o (yielded ops a.tmps)=true then Oper.wp P o a w K Q else E:=by
 have hw:Region.wanted o (yielded ops a.tmps)=true:=by simp[Region.wanted,hgd]
 rw[if_pos hw];exact zdg w s x t ho base e i z size bytes ht hi hz hsize hby hzs hsz v n xs hs hown B A m c news hx hr h1 h63 hbytes hbase h
end
theorem ex {α:Sort _} (a:α):∃q,a=q:=⟨a,rfl⟩
namespace Gr
inductive Reach (sc:Nat->List Nat):Nat->Nat->Prop
 |refl (a:Nat):Reach sc a a
 |step {a b c:Nat}:b∈sc a->Reach sc b c->Reach sc a c
theorem Reach.one {sc:Nat->List Nat} {a b:Nat} (h:b∈sc a):Reach sc a b:=.step h (.refl b)
theorem Reach.trans {sc:Nat->List Nat} {a b c:Nat} (h:Reach sc a b) (h2:Reach sc b c):Reach sc a c:=by
 induction h with
 |refl=>exact h2
 |step h1 _ ih=>exact .step h1 (ih h2)
theorem Reach.closed {sc:Nat->List Nat} {p:Nat->Prop} (hp:∀a,p a->∀b∈sc a,p b) {a b:Nat} (h:Reach sc a b) (ha:p a):p b:=by
 induction h with
 |refl=>exact ha
 |step h1 _ ih=>exact ih (hp _ ha _ h1)
theorem za2 {α:Type} (l:List α) (v:Nat) (a d:α) (h:v<l.length):(l.set v a).getD v d=a:=by
 grind
theorem getD_set_ne {α:Type} (l:List α) (u v:Nat) (a d:α) (h:u≠v):(l.set u a).getD v d=l.getD v d:=by
 grind
structure TS where
 idx:List Nat
 low:List Nat
 inn:List Int
 sizes:List Nat
 stk:List Nat
 on:List Bool
 next:Nat
def TS.ix (s:TS) (v:Nat):Nat:=s.idx.getD v 0
def TS.lw (s:TS) (v:Nat):Nat:=s.low.getD v 0
def TS.cn (s:TS) (v:Nat):Int:=s.inn.getD v (-1)
def TS.onn (s:TS) (v:Nat):Bool:=s.on.getD v false
def TS.push (s:TS) (v:Nat):TS:=
 {s with next:=s.next+1,idx:=s.idx.set v (s.next+1),low:=s.low.set v (s.next+1),stk:=s.stk++[v],on:=s.on.set v true}
def TS.lower (s:TS) (v m:Nat):TS:={s with low:=s.low.set v (min (s.lw v) m)}
def TS.drop1 (s:TS) (x:Nat):TS:={s with stk:=s.stk.dropLast,on:=s.on.set x false,inn:=s.inn.set x s.sizes.length}
def TS.popL (v:Nat):List Nat->Nat->TS->TS×Nat
 | [],k,s=>(s,k)
 |x::r,k,s=>if x=v then(s.drop1 x,k+1)else TS.popL v r (k+1) (s.drop1 x)
def TS.close (s:TS) (v:Nat):TS:={(TS.popL v s.stk.reverse 0 s).1 with sizes:=s.sizes++[(TS.popL v s.stk.reverse 0 s).2]}
def tstep (vis:TS->Nat->TS) (v:Nat) (s:TS) (x:Nat):TS:=
 if s.ix x=0 then(vis s x).lower v ((vis s x).lw x)else if s.onn x then s.lower v (s.ix x)else s
def tfin (s:TS) (v:Nat):TS:=if s.lw v=s.ix v then s.close v else s
def tvisit (sc:Nat->List Nat):Nat->TS->Nat->TS
 | 0,s,_=>s
 |f+1,s,v=>tfin ((sc v).foldl (tstep (tvisit sc f) v) (s.push v)) v
def unv (n:Nat) (s:TS):Nat:=(List.range n).countP (fun i=>s.ix i==0)
theorem countP_le {α:Type} (p q:α->Bool) (l:List α) (h:∀x∈l,p x=true->q x=true):l.countP p<=l.countP q:=by
 induction l with
 |nil=>simp
 |cons a l ih=>
  grind
theorem zdh {α:Type} (p q:α->Bool) (l:List α) (h:∀x∈l,p x=true->q x=true) (a:α) (ha:a∈l) (hp:p a=false) (hq:q a=true):l.countP p<l.countP q:=by
 induction l with
 |nil=>cases ha
 |cons b l ih=>
  simp only[List.countP_cons];rcases List.mem_cons.1 ha with rfl|hm
  .have:=countP_le p q l (fun x c=>h x (.tail _ c));simp[hp,hq];omega
  .grind
theorem zlr (l:List Nat) (a:Nat) (p:Nat->Bool) (hn:l.Nodup) (ha:a∈l) (hp:p a=false):l.countP (fun i=>i==a || p i)=l.countP p+1:=by
 induction l with
 |nil=>cases ha
 |cons b l ih=>
  simp only[List.countP_cons];have c:=List.nodup_cons.1 hn;rcases List.mem_cons.1 ha with rfl|hm
  .have:l.countP (fun i=>i==a || p i)=l.countP p:=by
    apply List.countP_congr;intro x d;have:x≠a:=fun e=>c.1 (e▸d)
    simp[this]
   rw[this];simp[hp]
  .grind
theorem zdu (n:Nat) (C:List Nat) (hn:C.Nodup) (hC:∀x∈C,x<n):(List.range n).countP (fun i=>decide (i∈C))=C.length:=by
 induction C with
 |nil=>simp
 |cons a C ih=>
  have h:=List.nodup_cons.1 hn;have e:(List.range n).countP (fun i=>decide (i∈a::C))=(List.range n).countP (fun i=>i==a || decide (i∈C)):=by
   grind
  rw[e,zlr _ _ _ List.nodup_range (List.mem_range.2 (hC a (.head _))) (by simp[h.1]),ih h.2 (fun x b=>hC x (.tail _ b))];rfl
structure Inv (sc:Nat->List Nat) (n:Nat) (G:Nat->Prop) (s:TS):Prop where
 li:s.idx.length=n
 ll:s.low.length=n
 lc:s.inn.length=n
 lo:s.on.length=n
 nx:∀v,s.ix v<=s.next
 inj:∀u v,s.ix u≠0->s.ix u=s.ix v->u=v
 mem:∀v,s.onn v=true↔v∈s.stk
 stv:∀v∈s.stk,v<n/\s.ix v≠0
 ord:s.stk.Pairwise (fun a b=>s.ix a<s.ix b)
 don:∀v,s.cn v≠-1↔s.ix v≠0/\v∉s.stk
 rng:∀v,s.cn v≠-1->0<=s.cn v/\s.cn v<s.sizes.length
 suc:∀v,s.cn v≠-1->∀x∈sc v,s.cn x≠-1/\s.cn x<=s.cn v
 cmp:∀u v,s.cn u≠-1->s.cn v≠-1->(s.cn u=s.cn v↔Reach sc u v/\Reach sc v u)
 cnt:∀c:Nat,c<s.sizes.length->s.sizes.getD c 0=(List.range n).countP (fun i=>s.cn i==(c:Int))
 gst:∀g,G g->g∈s.stk
 gfw:∀g y,G g->y∈s.stk->s.ix g<=s.ix y->Reach sc g y
 gbk:∀y∈s.stk,∃g,G g/\s.ix g<=s.ix y/\Reach sc y g
 blk:∀v,s.ix v≠0->¬G v->∀x∈sc v,s.ix x≠0
 bn:s.next+unv n s<=n
 bz:s.sizes.length+s.stk.length+unv n s<=n
structure Post (sc:Nat->List Nat) (s s':TS) (v:Nat) (T:List Nat):Prop where
 stk:s'.stk=s.stk++T
 kix:∀u,s.ix u≠0->s'.ix u=s.ix u
 klw:∀u,s.ix u≠0->s'.lw u=s.lw u
 kcn:∀u,s.cn u≠-1->s'.cn u=s.cn u
 nxt:s.next<=s'.next
 vis:s'.ix v≠0
 new:∀u,s.ix u=0->s'.ix u≠0->s.next<s'.ix u
 rch:∀u,s.ix u=0->s'.ix u≠0->Reach sc v u
 out:v∉T->T=[]/\s'.lw v=s'.ix v
 att:v∈T->∃z∈s.stk,s.ix z=s'.lw v/\Reach sc v z
 edg:v∈T->∀y∈T,∀z∈sc y,z∈s.stk->s'.lw v<=s.ix z
section
variable {sc:Nat->List Nat} {n:Nat} {G:Nat->Prop} {s s':TS} {v:Nat}
theorem zjb (h:v<s.idx.length) (u:Nat):(s.push v).ix u=if u=v then s.next+1 else s.ix u:=by
 unfold TS.ix TS.push;simp only;split
 .grind
 .grind
theorem zu4 (h:v<s.low.length) (u:Nat):(s.push v).lw u=if u=v then s.next+1 else s.lw u:=by
 unfold TS.lw TS.push;simp only;split
 .grind
 .grind
theorem zr4 (h:v<s.on.length) (u:Nat):(s.push v).onn u=if u=v then true else s.onn u:=by
 unfold TS.onn TS.push;simp only;split
 .grind
 .grind
theorem zke (h:v<s.low.length) (m u:Nat):(s.lower v m).lw u=if u=v then min (s.lw v) m else s.lw u:=by
 unfold TS.lower;show(s.low.set v _).getD u 0=_;split
 .grind
 .exact getD_set_ne _ _ _ _ _ (Ne.symm ‹_›)
theorem Inv.lower (h:Inv sc n G s) (m:Nat):Inv sc n G (s.lower v m):=
 ⟨h.li,by unfold TS.lower;simp[h.ll],h.lc,h.lo,h.nx,h.inj,h.mem,h.stv,h.ord,h.don,h.rng,h.suc,h.cmp,h.cnt,h.gst,h.gfw,h.gbk,h.blk,h.bn,h.bz⟩
theorem Inv.push (h:Inv sc n G s) (hv:v<n) (h0:s.ix v=0) (hg:∀g,G g->Reach sc g v):Inv sc n (fun u=>G u\/u=v) (s.push v):=by
 have c:=zjb (s:=s) (v:=v) (by rw[h.li];exact hv);have p:=zr4 (s:=s) (v:=v) (by rw[h.lo];exact hv);have t:v∉s.stk:=fun F=>(h.stv v F).2 h0
 have q:∀u,(s.push v).cn u=s.cn u:=fun u=>rfl
 have f:(s.push v).stk=s.stk++[v]:=rfl;have z:(s.push v).sizes=s.sizes:=rfl;have d:∀u∈s.stk,u≠v:=fun u j e=>t (e▸j)
 have hup:unv n (s.push v)<unv n s:=by
  refine zdh _ _ _ (fun u _ j=>?_) v (List.mem_range.2 hv) ?_ (by simpa using h0)
  .grind
  .rw[c,if_pos rfl];simp
 refine⟨by simp[TS.push,h.li],by simp[TS.push,h.ll],h.lc,by simp[TS.push,h.lo],?_,?_,?_,?_,?_,?_,h.rng,h.suc,h.cmp,h.cnt,?_,?_,?_,?_,?_,?_⟩
 .intro u;rw[c];have:=h.nx u;show _<=s.next+1;split<;>omega
 .intro u w;rw[c,c];have:=h.nx u;have:=h.nx w;have:=h.inj u w;split<;>split<;>intros<;>first|omega| (subst_vars;rfl)| (apply h.inj<;>assumption)
 .intro u;rw[p,f,List.mem_append,List.mem_singleton];split
  .simp[*]
  .rw[h.mem];simp[*]
 .intro u j;rw[f,List.mem_append,List.mem_singleton]at j;rw[c];rcases j with j|rfl
  .rw[if_neg (d u j)];exact h.stv u j
  .simp[hv]
 .rw[f,List.pairwise_append];refine⟨?_,by simp,?_⟩
  .exact h.ord.imp_of_mem (fun r l o=>by rw[c,c,if_neg (d _ r),if_neg (d _ l)];exact o)
  .intro a r b l;rw[List.mem_singleton]at l;subst l;rw[c,c,if_neg (d a r),if_pos rfl];have:=h.nx a;omega
 .intro u;rw[q,c,f,List.mem_append,List.mem_singleton,h.don];split
  .subst u;simp[h0]
  .simp[*]
 .intro g k;rw[f,List.mem_append,List.mem_singleton];rcases k with k|rfl
  .exact .inl (h.gst g k)
  .exact .inr rfl
 .intro g y k i;rw[f,List.mem_append,List.mem_singleton]at i;rw[c,c];rcases k with k|rfl
  .have A:=d g (h.gst g k);rw[if_neg A];rcases i with i|rfl
   .rw[if_neg (d y i)];exact h.gfw g y k i
   .intro _;exact hg g k
  .rw[if_pos rfl];rcases i with i|rfl
   .rw[if_neg (d y i)];have:=h.nx y;intro;omega
   .intro _;exact .refl _
 .intro y i;rw[f,List.mem_append,List.mem_singleton]at i;rcases i with i|rfl
  .obtain⟨g,C,H,E⟩:=h.gbk y i;refine⟨g,.inl C,?_,E⟩;rw[c,c,if_neg (d y i),if_neg (d g (h.gst g C))];exact H
  .exact⟨y,.inr rfl,Nat.le_refl _,.refl _⟩
 .intro u j k x D;rw[c]at j ⊢;have B:u≠v:=fun e=>k (.inr e)
  rw[if_neg B]at j;have:=h.blk u j (fun e=>k (.inl e)) x D;split<;>omega
 .have:=h.bn;show s.next+1+_<=n;omega
 .have:=h.bz;rw[f,z,List.length_append];simp only[List.length_cons,List.length_nil];omega
end
section
variable {sc:Nat->List Nat} {n:Nat} {G:Nat->Prop} {s s':TS} {v:Nat}
theorem zkf (x:Nat) (h:x<s.inn.length) (u:Nat):(s.drop1 x).cn u=if u=x then(s.sizes.length:Int)else s.cn u:=by
 unfold TS.cn TS.drop1;simp only;split
 .grind
 .grind
theorem zhh (x:Nat) (h:x<s.on.length) (u:Nat):(s.drop1 x).onn u=if u=x then false else s.onn u:=by
 unfold TS.onn TS.drop1;simp only;split
 .grind
 .grind
structure Popped (s s':TS) (A C:List Nat):Prop where
 idx:s'.idx=s.idx
 low:s'.low=s.low
 next:s'.next=s.next
 sizes:s'.sizes=s.sizes
 stk:s'.stk=A
 lc:s'.inn.length=s.inn.length
 lo:s'.on.length=s.on.length
 cn:∀u,s'.cn u=if u∈C then(s.sizes.length:Int)else s.cn u
 onn:∀u,s'.onn u=if u∈C then false else s.onn u
theorem zn1 (v:Nat) (A:List Nat):∀(R rest:List Nat) (k:Nat) (s:TS),v∉R->s.stk=A++v::R.reverse->(∀x∈v::R,x<s.inn.length/\x<s.on.length)->
 Popped s (TS.popL v (R++v::rest) k s).1 A (v::R)/\(TS.popL v (R++v::rest) k s).2=k+R.length+1:=by
 intro R
 induction R with
 |nil=>
  intro rest k s _ h c;have c:=c v (.head _);simp only[List.nil_append,TS.popL,if_true,List.length_nil,Nat.add_zero,and_true];refine⟨rfl,rfl,rfl,rfl,?_,by simp[TS.drop1],by simp[TS.drop1],?_,?_⟩
  .show s.stk.dropLast=A;rw[h];simp
  .intro u;rw[zkf _ c.1];simp
  .intro u;rw[zhh _ c.2];simp
 |cons x R ih=>
  intro rest k s i h c;have g:x≠v:=fun e=>i (e▸.head _)
  have d:=c x (.tail _ (.head _));simp only[List.cons_append,TS.popL,if_neg g];have f:(s.drop1 x).stk=A++v::R.reverse:=by
   show s.stk.dropLast=_;rw[h];simp only[List.reverse_cons,<-List.cons_append,<-List.append_assoc,List.dropLast_concat]
  obtain⟨b,j⟩:=ih rest (k+1) (s.drop1 x) (fun e=>i (.tail _ e)) f (fun y hy=>by
   have:y∈v::x::R:=by
    grind
   have:=c y this;simpa[TS.drop1]using this)
  refine⟨⟨b.idx,b.low,b.next,b.sizes,b.stk,by rw[b.lc];simp[TS.drop1],by rw[b.lo];simp[TS.drop1],?_,?_⟩,by rw[j];simp;omega⟩
  .intro u;rw[b.cn,zkf _ d.1];show(if u∈v::R then(s.sizes.length:Int)else _)=_;by_cases e:u=x<;>by_cases e2:u∈v::R<;>simp_all
  .intro u;rw[b.onn,zhh _ d.2];by_cases e:u=x<;>by_cases e2:u∈v::R<;>simp_all
theorem zu5 (v:Nat):∀(R rest:List Nat) (k:Nat) (s:TS),v∉R->TS.popL v (R++v::rest) k s=((R.foldl TS.drop1 s).drop1 v,k+R.length+1):=by
 intro R
 induction R with
 |nil=>intro rest k s _;simp[TS.popL]
 |cons x R ih=>
  intro rest k s c;have b:x≠v:=fun e=>c (e▸.head _)
  simp only[List.cons_append,TS.popL,if_neg b,List.foldl_cons,List.length_cons];rw[ih rest (k+1) _ (fun e=>c (.tail _ e))]
  congr 1
  omega
theorem zr5 {s:TS} {A T:List Nat} {v:Nat} (hs:s.stk=A++v::T) (hv:v∉T):s.close v={(T.reverse.foldl TS.drop1 s).drop1 v with sizes:=s.sizes++[T.length+1]}:=by
 have b:s.stk.reverse=T.reverse++v::A.reverse:=by rw[hs];simp
 unfold TS.close;rw[b,zu5 v T.reverse A.reverse 0 s (by simpa using hv)];simp
theorem zr6 {s:TS} {A T:List Nat} {v:Nat} (hs:s.stk=A++v::T):∀k,k<=T.length->((T.reverse.take k).foldl TS.drop1 s).stk=A++v::T.take (T.length-k)/\((T.reverse.take k).foldl TS.drop1 s).sizes=s.sizes/\
 ((T.reverse.take k).foldl TS.drop1 s).on.length=s.on.length/\((T.reverse.take k).foldl TS.drop1 s).inn.length=s.inn.length:=by
 intro k
 induction k with
 |zero=>intro _;simp[hs]
 |succ k ih=>
  intro hk;obtain⟨d,c,f,g⟩:=ih (by omega);have b:k<T.reverse.length:=by simp;omega
  rw[List.take_succ_eq_append_getElem b,List.foldl_append];simp only[List.foldl_cons,List.foldl_nil];refine⟨?_,c,?_,?_⟩
  .show List.dropLast _=_;rw[d];have e:T.take (T.length-k)=T.take (T.length-(k+1))++[T[T.length-(k+1)]'(by omega)]:=by
    have:=List.take_succ_eq_append_getElem (l:=T) (i:=T.length-(k+1)) (by omega);rw[show T.length-(k+1)+1=T.length-k from by omega]at this;exact this
   rw[e,<-List.cons_append,<-List.append_assoc,List.dropLast_concat]
  .show(List.set _ _ _).length=_;rw[List.length_set];exact f
  .show(List.set _ _ _).length=_;rw[List.length_set];exact g
theorem zd6 {l:List Nat} {f:Nat->Nat} (h:l.Pairwise (fun a b=>f a<f b)):l.Nodup:=
 h.imp (fun c e=>by rw[e]at c;omega)
structure Loop (sc:Nat->List Nat) (n:Nat) (G:Nat->Prop) (s0 s:TS) (v:Nat) (T P:List Nat):Prop where
 inv:Inv sc n (fun u=>G u\/u=v) s
 stk:s.stk=s0.stk++v::T
 kix:∀u,s0.ix u≠0->s.ix u=s0.ix u
 klw:∀u,s0.ix u≠0->s.lw u=s0.lw u
 kcn:∀u,s0.cn u≠-1->s.cn u=s0.cn u
 nxt:s0.next<s.next
 ixv:s.ix v=s0.next+1
 new:∀u,s0.ix u=0->s.ix u≠0->s0.next<s.ix u
 rch:∀u,s0.ix u=0->s.ix u≠0->Reach sc v u
 prc:∀x∈P,s.ix x≠0
 lwv:s.lw v<=s.ix v
 att:s.lw v=s.ix v\/∃z∈s0.stk,s0.ix z=s.lw v/\Reach sc v z
 ed1:∀y∈T,∀z∈sc y,z∈s0.stk->s.lw v<=s0.ix z
 ed2:∀x∈P,x∈s0.stk->s.lw v<=s0.ix x
theorem Loop.close {s0:TS} {T:List Nat} (h0:Inv sc n G s0) (hv:v<n) (hv0:s0.ix v=0) (h:Loop sc n G s0 s v T (sc v)) (hl:s.lw v=s.ix v):
 Inv sc n G (s.close v)/\Post sc s0 (s.close v) v []:=by
 have d:=h.inv;have Q:s.stk.Nodup:=zd6 d.ord;rw[h.stk,List.nodup_append]at Q;obtain⟨_,I,W⟩:=Q;have S:v∉T:=(List.nodup_cons.1 I).1;have j:∀u,u∈s.stk↔u∈s0.stk\/u∈v::T:=fun u=>by rw[h.stk,List.mem_append]
 have H:∀x∈v::T,x<n/\s.ix x≠0:=fun x o=>d.stv x ((j x).2 (.inr o))
 have R:s.stk.reverse=T.reverse++v::s0.stk.reverse:=by rw[h.stk];simp
 obtain⟨C,hk⟩:=zn1 v s0.stk T.reverse s0.stk.reverse 0 s (by simpa using S) (by rw[h.stk];simp) (fun x o=>by
  have:x∈v::T:=by simpa using o
  have:=(H x this).1;exact⟨by rw[d.lc];exact this,by rw[d.lo];exact this⟩)
 rw[<-R]at C hk;obtain⟨c,B⟩:∃c,s.close v=c:=⟨_,rfl⟩
 have V:∀u,u∈v::T.reverse↔u∈v::T:=fun u=>by simp
 have f:∀u,c.ix u=s.ix u:=fun u=>by rw[<-B];show(TS.popL v s.stk.reverse 0 s).1.idx.getD u 0=_;rw[C.idx];rfl
 have ad:∀u,c.lw u=s.lw u:=fun u=>by rw[<-B];show(TS.popL v s.stk.reverse 0 s).1.low.getD u 0=_;rw[C.low];rfl
 have t:∀u,c.cn u=if u∈v::T then(s.sizes.length:Int)else s.cn u:=fun u=>by
  rw[<-B];show(TS.popL v s.stk.reverse 0 s).1.cn u=_;rw[C.cn];simp only[V]
 have Y:∀u,c.onn u=if u∈v::T then false else s.onn u:=fun u=>by
  rw[<-B];show(TS.popL v s.stk.reverse 0 s).1.onn u=_;rw[C.onn];simp only[V]
 have q:c.stk=s0.stk:=by rw[<-B];exact C.stk
 have K:c.sizes=s.sizes++[(v::T).length]:=by rw[<-B];show s.sizes++[_]=_;rw[hk];simp
 have M:c.next=s.next:=by rw[<-B];exact C.next
 have X:c.idx.length=n:=by rw[<-B];show(TS.popL v s.stk.reverse 0 s).1.idx.length=n;rw[C.idx];exact d.li
 have aa:c.low.length=n:=by rw[<-B];show(TS.popL v s.stk.reverse 0 s).1.low.length=n;rw[C.low];exact d.ll
 have ag:c.inn.length=n:=by rw[<-B];show(TS.popL v s.stk.reverse 0 s).1.inn.length=n;rw[C.lc];exact d.lc
 have ac:c.on.length=n:=by rw[<-B];show(TS.popL v s.stk.reverse 0 s).1.on.length=n;rw[C.lo];exact d.lo
 rw[B];have r:∀x∈v::T,s.cn x=-1:=fun x o=>by
  apply Classical.byContradiction;intro ah;exact((d.don x).1 ah).2 ((j x).2 (.inr o))
 have hd:∀x∈v::T,x∉s0.stk:=fun x o h1=>W x h1 x o rfl
 have l:∀u,c.cn u≠-1↔u∈v::T\/s.cn u≠-1:=fun u=>by
  grind
 have O:∀y∈v::T,∀x∈sc y,x∈v::T\/s.cn x≠-1:=by
  intro y D x o;have ab:s.ix x≠0:=by
   rcases List.mem_cons.1 D with rfl|hyT
   .exact h.prc x o
   .refine d.blk y (H y D).2 ?_ x o;rintro(hg|rfl)
    .exact hd y D (h0.gst y hg)
    .exact S hyT
  by_cases hxs:x∈s.stk
  .rcases(j x).1 hxs with hx0|hxC
   .exfalso;have h1:s.lw v<=s0.ix x:=by
     rcases List.mem_cons.1 D with rfl|hyT
     .exact h.ed2 x o hx0
     .exact h.ed1 y hyT x o hx0
    have z:=h0.nx x;have J:=h.ixv;omega
   .exact .inl hxC
  .exact .inr ((d.don x).2 ⟨ab,hxs⟩)
 have A:∀u∈v::T,Reach sc v u/\Reach sc u v:=by
  intro u hu;have U:u∈s.stk:=(j u).2 (.inr hu);have F:s.ix v<=s.ix u:=by
   rcases List.mem_cons.1 hu with rfl|huT
   .exact Nat.le_refl _
   .have:=d.ord;rw[h.stk,List.pairwise_append]at this;exact Nat.le_of_lt ((List.pairwise_cons.1 this.2.1).1 u huT)
  refine⟨d.gfw v u (.inr rfl) U F,?_⟩;obtain⟨g,hg,h1,z⟩:=d.gbk u U;rcases hg with hg|rfl
  .refine z.trans (d.gfw g v (.inl hg) ((j v).2 (.inr (.head _))) ?_);have J:=h0.stv g (h0.gst g hg);rw[h.kix g J.2];have:=h0.nx g;have:=h.ixv;omega
  .exact z
 have P:unv n c=unv n s:=by
  unfold unv;apply List.countP_congr;intro i _;rw[f]
 refine⟨⟨X,aa,ag,ac,?_,?_,?_,?_,?_,?_,?_,?_,?_,?_,?_,?_,?_,?_,?_,?_⟩,⟨?_,?_,?_,?_,?_,?_,?_,?_,?_,?_,?_⟩⟩
 .intro u;rw[f,M];exact d.nx u
 .intro u w;rw[f,f];exact d.inj u w
 .intro u;rw[Y,q];split
  .have:=hd u ‹_›;simp[this]
  .rw[d.mem,j];simp_all
 .intro u hu;rw[q]at hu;rw[f];exact d.stv u ((j u).2 (.inl hu))
 .rw[q];have:=d.ord;rw[h.stk,List.pairwise_append]at this;exact this.1.imp (fun af=>by rw[f,f];exact af)
 .intro u;rw[l,f,q];constructor
  .rintro(h1|h1)
   .exact⟨(H u h1).2,hd u h1⟩
   .have:=(d.don u).1 h1;exact⟨this.1,fun z=>this.2 ((j u).2 (.inl z))⟩
  .rintro⟨h1,z⟩;by_cases J:u∈v::T
   .exact .inl J
   .exact .inr ((d.don u).2 ⟨h1,fun h4=>((j u).1 h4).elim z J⟩)
 .intro u;rw[l,t,K,List.length_append];intro h1;split
  .simp;omega
  .have:=d.rng u (by simp_all);simp;omega
 .intro u hu x o;rw[l]at hu;rw[l,t,t];rcases hu with hu|hu
  .rw[if_pos hu];rcases O u hu x o with h1|h1
   .grind
   .refine⟨.inr h1,?_⟩;have:=d.rng x h1;split<;>omega
  .have h1:=d.suc u hu x o;have E:u∉v::T:=fun e=>hu (r u e)
   have ae:x∉v::T:=fun e=>h1.1 (r x e)
   rw[if_neg E,if_neg ae];exact⟨.inr h1.1,h1.2⟩
 .intro u w hu hw;rw[l]at hu hw;rw[t,t];have key:∀u w,u∈v::T->s.cn w≠-1->¬(Reach sc w u):=by
   intro u w hu hw hr;have:=hr.closed (p:=fun a=>s.cn a≠-1) (fun a ha b hb=>(d.suc a ha b hb).1) hw;exact this (r u hu)
  rcases hu with hu|hu<;>rcases hw with hw|hw
  .rw[if_pos hu,if_pos hw];simp only[true_iff];exact⟨(A u hu).2.trans (A w hw).1,(A w hw).2.trans (A u hu).1⟩
  .have L:w∉v::T:=fun e=>hw (r w e)
   rw[if_pos hu,if_neg L];have:=d.rng w hw;constructor
   .intro;omega
   .grind
  .have E:u∉v::T:=fun e=>hu (r u e)
   rw[if_neg E,if_pos hw];have:=d.rng u hu;constructor
   .intro;omega
   .grind
  .have E:u∉v::T:=fun e=>hu (r u e)
   have L:w∉v::T:=fun e=>hw (r w e)
   rw[if_neg E,if_neg L];exact d.cmp u w hu hw
 .intro k N;rw[K]at N ⊢;rw[List.length_append]at N;simp only[List.length_cons,List.length_nil,Nat.zero_add]at N;by_cases hks:k<s.sizes.length
  .have:(s.sizes++[(v::T).length]).getD k 0=s.sizes.getD k 0:=by
    grind
   rw[this,d.cnt k hks];apply List.countP_congr;intro i _;rw[t];split
   .grind
   .rfl
  .have Z:k=s.sizes.length:=by omega
   subst Z;have:(s.sizes++[(v::T).length]).getD s.sizes.length 0=(v::T).length:=by
    grind
   rw[this,<-zdu n (v::T) I (fun x o=>(H x o).1)];apply List.countP_congr;intro i _;rw[t];split
   .simp_all
   .have h1:s.cn i≠(s.sizes.length:Int):=by
     intro e;by_cases z:s.cn i=-1
     .omega
     .have:=d.rng i z;omega
    simp_all
 .intro g hg;rw[q];exact h0.gst g hg
 .intro g y hg D F;rw[q]at D;rw[f,f]at F;exact d.gfw g y (.inl hg) ((j y).2 (.inl D)) F
 .intro y D;rw[q]at D;obtain⟨g,h1,z,J⟩:=h0.gbk y D;refine⟨g,h1,?_,J⟩;rw[f,f,h.kix y (h0.stv y D).2,h.kix g (h0.stv g (h0.gst g h1)).2];exact z
 .intro u hu hG x o;rw[f]at hu ⊢;by_cases huv:u=v
  .subst huv;exact h.prc x o
  .exact d.blk u hu (fun e=>e.elim hG huv) x o
 .rw[M,P];exact d.bn
 .rw[K,q,P];have:=d.bz;rw[h.stk]at this;simp only[List.length_append,List.length_cons,List.length_nil]at *;omega
 .rw[q];simp
 .intro u hu;rw[f];exact h.kix u hu
 .intro u hu;rw[ad];exact h.klw u hu
 .intro u hu;rw[t];split
  .rename_i hm;exfalso;have:=h.kcn u hu;rw[r u hm]at this;exact hu this.symm
  .exact h.kcn u hu
 .rw[M];exact Nat.le_of_lt h.nxt
 .rw[f,h.ixv];omega
 .intro u h1 z;rw[f]at z ⊢;exact h.new u h1 z
 .intro u h1 z;rw[f]at z;exact h.rch u h1 z
 .grind
 .intro e;cases e
 .intro e;cases e
end
section
variable {sc:Nat->List Nat} {n:Nat} {G:Nat->Prop} {s s':TS} {v:Nat}
theorem Loop.stay {s0:TS} {T:List Nat} (h0:Inv sc n G s0) (h:Loop sc n G s0 s v T (sc v)) (hl:s.lw v≠s.ix v):
 Inv sc n G s/\Post sc s0 s v (v::T):=by
 have b:=h.inv;have i:∀u,u∈s.stk↔u∈s0.stk\/u∈v::T:=fun u=>by rw[h.stk,List.mem_append]
 obtain⟨z,B,p,j⟩:=h.att.resolve_left hl;obtain⟨k,f,hgz,o⟩:=h0.gbk z B;have hlt:s0.ix z<s.ix v:=by have:=h.ixv;have:=h0.nx z;omega
 refine⟨⟨b.li,b.ll,b.lc,b.lo,b.nx,b.inj,b.mem,b.stv,b.ord,b.don,b.rng,b.suc,b.cmp,b.cnt,?_,?_,?_,?_,b.bn,b.bz⟩,⟨h.stk,h.kix,h.klw,h.kcn,Nat.le_of_lt h.nxt,?_,h.new,h.rch,?_,?_,?_⟩⟩
 .intro g q;exact(i g).2 (.inl (h0.gst g q))
 .intro g y q;exact b.gfw g y (.inl q)
 .intro y l;obtain⟨g,r,E,w⟩:=b.gbk y l;rcases r with r|rfl
  .exact⟨g,r,E,w⟩
  .refine⟨k,f,?_,w.trans (j.trans o)⟩;rw[h.kix k (h0.stv k (h0.gst k f)).2];omega
 .intro u D C x t;by_cases huv:u=v
  .subst huv;exact h.prc x t
  .exact b.blk u D (fun e=>e.elim C huv) x t
 .rw[h.ixv];omega
 .grind
 .intro _;exact⟨z,B,p,j⟩
 .intro _ y l A c d;rcases List.mem_cons.1 l with rfl|hyT
  .exact h.ed2 A c d
  .exact h.ed1 y hyT A c d
theorem Loop.start (h0:Inv sc n G s) (hv:v<n) (hv0:s.ix v=0) (hg:∀g,G g->Reach sc g v):Loop sc n G s (s.push v) v [] []:=by
 have b:=zjb (s:=s) (v:=v) (by rw[h0.li];exact hv);have hlw:=zu4 (s:=s) (v:=v) (by rw[h0.ll];exact hv);refine⟨h0.push hv hv0 hg,rfl,?_,?_,fun _ _=>rfl,Nat.lt_succ_self _,?_,?_,?_,?_,?_,?_,?_,?_⟩
 .grind
 .grind
 .rw[b,if_pos rfl]
 .grind
 .intro u f d;rw[b]at d;split at d
  .subst u;exact .refl _
  .exact absurd f d
 .intro x c;cases c
 .grind
 .grind
 .intro y e;cases e
 .intro x c;cases c
theorem Loop.lowered {s0:TS} {T P:List Nat} (_h0:Inv sc n G s0) (hv:v<n) (hv0:s0.ix v=0) (h:Loop sc n G s0 s v T P) (x m:Nat) (hx:s.ix x≠0)
 (hm:s.lw v<=m\/∃z∈s0.stk,s0.ix z=m/\Reach sc v z) (hx0:x∈s0.stk->m<=s0.ix x):Loop sc n G s0 (s.lower v m) v T (P++[x]):=by
 have c:=zke (s:=s) (v:=v) (by rw[h.inv.ll];exact hv) m;have b:(s.lower v m).lw v=min (s.lw v) m:=by rw[c,if_pos rfl]
 refine⟨h.inv.lower m,h.stk,h.kix,?_,h.kcn,h.nxt,h.ixv,h.new,h.rch,?_,?_,?_,?_,?_⟩
 .intro u g;rw[c,if_neg (fun(e:u=v)=>g (by rw[e];exact hv0))];exact h.klw u g
 .intro y hy;rcases List.mem_append.1 hy with hy|hy
  .exact h.prc y hy
  .rw[List.mem_singleton]at hy;subst hy;exact hx
 .rw[b];have:=h.lwv;show _<=s.ix v;omega
 .rw[b];rcases hm with hm|⟨z,h1,h2,h3⟩
  .rw[Nat.min_eq_left hm];exact h.att
  .by_cases hle:s.lw v<=m
   .rw[Nat.min_eq_left hle];exact h.att
   .grind
 .intro y hy z i f;rw[b];have:=h.ed1 y hy z i f;omega
 .intro y hy d;rw[b];rcases List.mem_append.1 hy with hy|hy
  .have:=h.ed2 y hy d;omega
  .grind
theorem Loop.old {s0:TS} {T P:List Nat} (h0:Inv sc n G s0) (hv:v<n) (hv0:s0.ix v=0) (h:Loop sc n G s0 s v T P) (vis:TS->Nat->TS) (x:Nat) (hxs:x∈sc v) (hx:s.ix x≠0):
 Loop sc n G s0 (tstep vis v s x) v T (P++[x]):=by
 unfold tstep;rw[if_neg hx];have b:∀u,u∈s.stk↔u∈s0.stk\/u∈v::T:=fun u=>by rw[h.stk,List.mem_append]
 by_cases hon:s.onn x=true
 .rw[if_pos hon];have c:=(h.inv.mem x).1 hon;refine h.lowered h0 hv hv0 x _ hx ?_ ?_
  .rcases(b x).1 c with h1|h1
   .exact .inr ⟨x,h1,(h.kix x (h0.stv x h1).2).symm,.one hxs⟩
   .left;have hle:s.ix v<=s.ix x:=by
     rcases List.mem_cons.1 h1 with rfl|h2
     .exact Nat.le_refl _
     .have:=h.inv.ord;rw[h.stk,List.pairwise_append]at this;exact Nat.le_of_lt ((List.pairwise_cons.1 this.2.1).1 x h2)
    have:=h.lwv;omega
  .intro h1;rw[h.kix x (h0.stv x h1).2];exact Nat.le_refl _
 .rw[if_neg hon];have c:x∉s.stk:=fun e=>hon ((h.inv.mem x).2 e)
  refine⟨h.inv,h.stk,h.kix,h.klw,h.kcn,h.nxt,h.ixv,h.new,h.rch,?_,h.lwv,h.att,h.ed1,?_⟩
  .intro y hy;rcases List.mem_append.1 hy with hy|hy
   .exact h.prc y hy
   .grind
  .intro y hy d;rcases List.mem_append.1 hy with hy|hy
   .exact h.ed2 y hy d
   .grind
theorem Loop.fresh {s0:TS} {T P T2:List Nat} (h0:Inv sc n G s0) (hv:v<n) (hv0:s0.ix v=0) (h:Loop sc n G s0 s v T P) (vis:TS->Nat->TS) (x:Nat) (hxs:x∈sc v) (hx:s.ix x=0)
 (hI:Inv sc n (fun u=>G u\/u=v) (vis s x)) (hP:Post sc s (vis s x) x T2):Loop sc n G s0 (tstep vis v s x) v (T++T2) (P++[x]):=by
 unfold tstep;rw[if_pos hx];obtain⟨q,B⟩:∃q,vis s x=q:=⟨_,rfl⟩
 rw[B]at hI hP ⊢;have i:∀u,u∈s.stk↔u∈s0.stk\/u∈v::T:=fun u=>by rw[h.stk,List.mem_append]
 have r:s.ix v≠0:=by rw[h.ixv];omega
 have j:∀u,s0.ix u≠0->s.ix u≠0:=fun u c=>by rw[h.kix u c];exact c
 have f:q.lw v=s.lw v:=hP.klw v r;have k:q.ix v=s.ix v:=hP.kix v r;have A:q.lw v<=q.lw x\/∃z∈s0.stk,s0.ix z=q.lw x/\Reach sc v z:=by
  by_cases hm:x∈T2
  .obtain⟨z,w,b,d⟩:=hP.att hm;rcases(i z).1 w with h3|h3
   .exact .inr ⟨z,h3,by rw[<-b,h.kix z (h0.stv z h3).2],.step hxs d⟩
   .left;rw[f,<-b];have o:s.ix v<=s.ix z:=by
     rcases List.mem_cons.1 h3 with rfl|h4
     .exact Nat.le_refl _
     .have:=h.inv.ord;rw[h.stk,List.pairwise_append]at this;exact Nat.le_of_lt ((List.pairwise_cons.1 this.2.1).1 z h4)
    have:=h.lwv;omega
  .left;have b:=(hP.out hm).2;have d:=hP.new x hx hP.vis;have h3:=h.inv.nx v;have:=h.lwv;rw[f,b];omega
 have p:=zke (s:=q) (v:=v) (by rw[hI.ll];exact hv) (q.lw x);have g:(q.lower v (q.lw x)).lw v=min (s.lw v) (q.lw x):=by rw[p,if_pos rfl,f]
 refine⟨hI.lower _,by show q.stk=_;rw[hP.stk,h.stk];simp,?_,?_,?_,Nat.lt_of_lt_of_le h.nxt hP.nxt,by rw[<-h.ixv];exact k,?_,?_,?_,?_,?_,?_,?_⟩
 .intro u c;show q.ix u=_;rw[hP.kix u (j u c)];exact h.kix u c
 .intro u c;rw[p,if_neg (fun(e:u=v)=>c (by rw[e];exact hv0)),hP.klw u (j u c)];exact h.klw u c
 .intro u c;have:=h.kcn u c;show q.cn u=_;rw[hP.kcn u (by rw[this];exact c)];exact this
 .intro u b d;have d:q.ix u≠0:=d;show s0.next<q.ix u;by_cases h3:s.ix u=0
  .have:=hP.new u h3 d;have:=h.nxt;omega
  .rw[hP.kix u h3];exact h.new u b h3
 .intro u b d;have d:q.ix u≠0:=d;by_cases h3:s.ix u=0
  .exact .step hxs (hP.rch u h3 d)
  .exact h.rch u b h3
 .intro y hy;show q.ix y≠0;rcases List.mem_append.1 hy with hy|hy
  .have:=h.prc y hy;rw[hP.kix y this];exact this
  .rw[List.mem_singleton]at hy;subst hy;exact hP.vis
 .rw[g];have:=h.lwv;show _<=q.ix v;rw[k];omega
 .rw[g];show _=q.ix v\/_;rw[k];rcases A with b|⟨z,b,d,h3⟩
  .rw[f]at b;rw[Nat.min_eq_left b];exact h.att
  .by_cases o:s.lw v<=q.lw x
   .rw[Nat.min_eq_left o];exact h.att
   .grind
 .intro y hy z w l;rw[g];rcases List.mem_append.1 hy with hy|hy
  .have:=h.ed1 y hy z w l;omega
  .have hm:x∈T2:=Classical.byContradiction (fun e=>by rw[(hP.out e).1]at hy;cases hy);have b:=hP.edg hm y hy z w ((i z).2 (.inl l));rw[h.kix z (h0.stv z l).2]at b;omega
 .intro y hy t;rw[g];rcases List.mem_append.1 hy with hy|hy
  .have:=h.ed2 y hy t;omega
  .rw[List.mem_singleton]at hy;subst hy;exact absurd hx (j y (h0.stv y t).2)
theorem zkg (h:∀u,s.ix u≠0->s'.ix u≠0):unv n s'<=unv n s:=by
 refine countP_le _ _ _ (fun u _ b=>?_);have b:s'.ix u=0:=by simpa using b
 have:s.ix u=0:=Classical.byContradiction (fun e=>h u e b);simpa using this
theorem zed (h0:Inv sc n G s) (hv:v<n) (hv0:s.ix v=0):unv n (s.push v)<unv n s:=by
 have b:=zjb (s:=s) (v:=v) (by rw[h0.li];exact hv);refine zdh _ _ _ (fun u _ hu=>?_) v (List.mem_range.2 hv) ?_ (by simpa using hv0)
 .grind
 .rw[b,if_pos rfl];simp
theorem zgd (hsc:∀a,∀b∈sc a,b<n):∀(f:Nat) (s:TS) (v:Nat) (G:Nat->Prop),Inv sc n G s->v<n->s.ix v=0->(∀g,G g->Reach sc g v)->unv n s<=f->
 ∃T,Inv sc n G (tvisit sc f s v)/\Post sc s (tvisit sc f s v) v T:=by
 intro f
 induction f with
 |zero=>
  intro s v G h e c _ j;exfalso;have:=zed h e c;omega
 |succ f ih=>
  intro s0 v G k e c w j;have hup:=zed k e c;have r:∀(L P:List Nat) (s:TS) (T:List Nat),sc v=P++L->unv n s<=f->Loop sc n G s0 s v T P->∃T',Loop sc n G s0 (L.foldl (tstep (tvisit sc f) v) s) v T' (sc v):=by
   intro L
   induction L with
   |nil=>
    grind
   |cons x L ihL=>
    intro P s T y i h;have d:x∈sc v:=by rw[y];simp
    have l:sc v=(P++[x])++L:=by rw[y];simp
    rw[List.foldl_cons];by_cases hx:s.ix x=0
    .have p:∀g,(G g\/g=v)->Reach sc g x:=by
      rintro g (h1|rfl)
      .exact(w g h1).trans (.one d)
      .exact .one d
     obtain⟨B,z,t⟩:=ih s x (fun u=>G u\/u=v) h.inv (hsc v x d) hx p i;refine ihL (P++[x]) _ (T++B) l ?_ (h.fresh k e c _ x d hx z t);refine Nat.le_trans (zkg (fun u j=>?_)) i;unfold tstep;rw[if_pos hx];show(tvisit sc f s x).ix u≠0;rw[t.kix u j];exact j
    .refine ihL (P++[x]) _ T l ?_ (h.old k e c _ x d hx);refine Nat.le_trans (zkg (fun u j=>?_)) i;unfold tstep;rw[if_neg hx];split<;>exact j
  obtain⟨T,o⟩:=r (sc v) [] (s0.push v) [] rfl (by omega) (Loop.start k e c w);obtain⟨q,A⟩:∃q,(sc v).foldl (tstep (tvisit sc f) v) (s0.push v)=q:=⟨_,rfl⟩
  show∃T,Inv sc n G (tfin _ v)/\Post sc s0 (tfin _ v) v T;rw[A]at o ⊢;unfold tfin;by_cases hl:q.lw v=q.ix v
  .rw[if_pos hl];exact⟨[],o.close k e c hl⟩
  .rw[if_neg hl];exact⟨v::T,o.stay k hl⟩
theorem zd7 (hsc:∀a,∀b∈sc a,b<n) (f:Nat) (s0:TS) (v:Nat) (h0:Inv sc n G s0) (hv:v<n) (hv0:s0.ix v=0) (hg:∀g,G g->Reach sc g v) (hu:unv n s0<=f+1):
 ∀k,k<=(sc v).length->∃T,Loop sc n G s0 (((sc v).take k).foldl (tstep (tvisit sc f) v) (s0.push v)) v T ((sc v).take k)/\unv n (((sc v).take k).foldl (tstep (tvisit sc f) v) (s0.push v))<=f:=by
 intro k
 induction k with
 |zero=>
  intro _;have:=zed h0 hv hv0;exact⟨[],Loop.start h0 hv hv0 hg,by simp only[List.take_zero,List.foldl_nil];omega⟩
 |succ k ih=>
  intro hk;obtain⟨T,h,d⟩:=ih (by omega);have e:k<(sc v).length:=by omega
  obtain⟨x,j⟩:∃x,(sc v)[k]=x:=⟨_,rfl⟩
  have c:x∈sc v:=j▸List.getElem_mem e;rw[List.take_succ_eq_append_getElem e,List.foldl_append,j];obtain⟨s,q⟩:∃s,((sc v).take k).foldl (tstep (tvisit sc f) v) (s0.push v)=s:=⟨_,rfl⟩
  rw[q]at h d ⊢;show∃T,Loop sc n G s0 (tstep (tvisit sc f) v s x) v T _/\_;by_cases hxi:s.ix x=0
  .have i:∀g,(G g\/g=v)->Reach sc g x:=by
    rintro g (h1|rfl)
    .exact(hg g h1).trans (.one c)
    .exact .one c
   obtain⟨p,o,l⟩:=zgd hsc f s x (fun u=>G u\/u=v) h.inv (hsc v x c) hxi i d;refine⟨T++p,h.fresh h0 hv hv0 _ x c hxi o l,?_⟩;refine Nat.le_trans (zkg (fun u hu=>?_)) d;show(tstep (tvisit sc f) v s x).ix u≠0;unfold tstep;rw[if_pos hxi];show(tvisit sc f s x).ix u≠0;rw[l.kix u hu];exact hu
  .refine⟨T,h.old h0 hv hv0 _ x c hxi,?_⟩;refine Nat.le_trans (zkg (fun u hu=>?_)) d;show(tstep (tvisit sc f) v s x).ix u≠0;unfold tstep;rw[if_neg hxi];split<;>exact hu
def tzero (n:Nat):TS:=⟨List.replicate n 0,List.replicate n 0,List.replicate n (-1),[],[],List.replicate n false,0⟩
theorem zct (n v:Nat):(tzero n).ix v=0:=by
 unfold TS.ix tzero;simp[List.getD_eq_getElem?_getD,List.getElem?_replicate];split<;>rfl
theorem zee (n v:Nat):(tzero n).cn v=-1:=by
 unfold TS.cn tzero;simp[List.getD_eq_getElem?_getD,List.getElem?_replicate];split<;>rfl
theorem zn2 (n v:Nat):(tzero n).onn v=false:=by
 unfold TS.onn tzero;simp[List.getD_eq_getElem?_getD,List.getElem?_replicate];split<;>rfl
theorem zhi (n:Nat):Inv sc n (fun _=>False) (tzero n):=by
 have b:unv n (tzero n)<=n:=by unfold unv;exact Nat.le_trans List.countP_le_length (by simp)
 refine⟨by simp[tzero],by simp[tzero],by simp[tzero],by simp[tzero],?_,?_,?_,?_,by simp[tzero],?_,?_,?_,?_,?_,?_,?_,?_,?_,?_,?_⟩
 .intro v;rw[zct];exact Nat.zero_le _
 .intro u v h;exact absurd (zct n u) h
 .intro v;rw[zn2];simp[tzero]
 .intro v d;cases d
 .intro v;rw[zee,zct];simp
 .intro v h;exact absurd (zee n v) h
 .intro v h;exact absurd (zee n v) h
 .intro u v h;exact absurd (zee n u) h
 .intro c h;exact absurd h (by simp[tzero])
 .intro g h;exact h.elim
 .intro g y h;exact h.elim
 .intro y h;cases h
 .intro v h;exact absurd (zct n v) h
 .show 0+_<=n;omega
 .show([]:List Nat).length+([]:List Nat).length+_<=n;simpa using b
def tcomp (sc:Nat->List Nat) (n root:Nat):TS:=tvisit sc n (tzero n) root
structure Comp (sc:Nat->List Nat) (n:Nat) (inn:Nat->Int) (sizes:List Nat):Prop where
 rng:∀v,v<n->0<=inn v/\inn v<sizes.length
 suc:∀v,v<n->∀x∈sc v,inn x<=inn v
 cmp:∀u v,u<n->v<n->(inn u=inn v↔Reach sc u v/\Reach sc v u)
 cnt:∀c:Nat,c<sizes.length->sizes.getD c 0=(List.range n).countP (fun i=>inn i==(c:Int))
theorem zkh (hsc:∀a,∀b∈sc a,b<n) (root:Nat) (hr:root<n) (hall:∀v,v<n->Reach sc root v):
 Comp sc n (tcomp sc n root).cn (tcomp sc n root).sizes/\(tcomp sc n root).inn.length=n/\(tcomp sc n root).sizes.length<=n:=by
 have f:unv n (tzero n)<=n:=by
  unfold unv;exact Nat.le_trans List.countP_le_length (by simp)
 obtain⟨T,c,k⟩:=zgd hsc n (tzero n) root (fun _=>False) (zhi n) hr (zct n root) (fun g h=>h.elim) f;obtain⟨q,t⟩:∃q,tvisit sc n (tzero n) root=q:=⟨_,rfl⟩
 unfold tcomp;rw[t]at c k ⊢;have i:∀v,v∉q.stk:=fun v d=>by obtain⟨g,h,_⟩:=c.gbk v d;exact h
 have j:q.cn root≠-1:=(c.don root).2 ⟨k.vis,i root⟩;have e:∀v,v<n->q.cn v≠-1:=fun v d=>(hall v d).closed (p:=fun a=>q.cn a≠-1) (fun a o b w=>(c.suc a o b w).1) j
 exact⟨⟨fun v d=>c.rng v (e v d),fun v d x l=>(c.suc v (e v d) x l).2,fun u v r d=>c.cmp u v (e u r) (e v d),c.cnt⟩,c.lc,by have:=c.bz;omega⟩
end
def dvisit (sc:Nat->List Nat):Nat->List Bool->Nat->List Bool
 | 0,m,_=>m
 |f+1,m,a=>if m.getD a false then m else(sc a).foldl (dvisit sc f) (m.set a true)
def mkd (m:List Bool) (x:Nat):Bool:=m.getD x false
def unm (n:Nat) (m:List Bool):Nat:=(List.range n).countP (fun i=>!mkd m i)
section
variable {sc:Nat->List Nat} {n:Nat} {m m':List Bool} {a:Nat}
structure DP (sc:Nat->List Nat) (n:Nat) (m m':List Bool) (P:List Nat):Prop where
 len:m'.length=n
 keep:∀x,mkd m x=true->mkd m' x=true
 prc:∀p∈P,mkd m' p=true
 rch:∀x,mkd m' x=true->mkd m x=true\/∃p∈P,Reach sc p x
 suc:∀x,mkd m' x=true->mkd m x=false->∀y∈sc x,mkd m' y=true
theorem DP.refl (h:m.length=n):DP sc n m m []:=⟨h,fun _ h=>h,fun p h=>(by cases h),fun x h=>.inl h,fun x c b=>by rw[c]at b;cases b⟩
theorem DP.snoc {m2:List Bool} {P Q:List Nat} (h:DP sc n m m' P) (h2:DP sc n m' m2 Q):DP sc n m m2 (P++Q):=by
 refine⟨h2.len,fun x b=>h2.keep x (h.keep x b),?_,?_,?_⟩
 .intro p hp;rcases List.mem_append.1 hp with hp|hp
  .exact h2.keep p (h.prc p hp)
  .exact h2.prc p hp
 .intro x b;rcases h2.rch x b with h3|⟨p,hp,hr⟩
  .rcases h.rch x h3 with h4|⟨p,hp,hr⟩
   .exact .inl h4
   .grind
  .grind
 .intro x b d y c;by_cases h3:mkd m' x=true
  .exact h2.keep y (h.suc x h3 d y c)
  .exact h2.suc x b (by simpa using h3) y c
theorem zud (h:∀x,mkd m x=true->mkd m' x=true):unm n m'<=unm n m:=by
 refine countP_le _ _ _ (fun u _ b=>?_);have b:mkd m' u=false:=by simpa using b
 have:mkd m u=false:=by cases e:mkd m u with|false=>rfl|true=>rw[h u e]at b;cases b
 simp[this]
theorem zki (h:a<m.length) (x:Nat):mkd (m.set a true) x=if x=a then true else mkd m x:=by
 unfold mkd;split
 .grind
 .grind
theorem zge (hl:m.length=n) (ha:a<n) (hm:mkd m a=false):unm n (m.set a true)<unm n m:=by
 have b:=zki (m:=m) (a:=a) (by omega);refine zdh _ _ _ (fun u _ hu=>?_) a (List.mem_range.2 ha) ?_ (by simp[hm])
 .grind
 .rw[b,if_pos rfl];rfl
theorem zeq {f:Nat} (ih:∀(m:List Bool) (a:Nat),m.length=n->a<n->unm n m<=f->DP sc n m (dvisit sc f m a) [a]):∀(L:List Nat) (m:List Bool),(∀x∈L,x<n)->m.length=n->unm n m<=f->DP sc n m (L.foldl (dvisit sc f) m) L:=by
 intro L
 induction L with
 |nil=>intro m _ b _;exact DP.refl b
 |cons x L ihL=>
  intro m d b e;rw[List.foldl_cons];have c:=ih m x b (d x (.head _)) e;exact c.snoc (ihL _ (fun y g=>d y (.tail _ g)) c.len (Nat.le_trans (zud c.keep) e))
theorem zbq (hsc:∀a,∀b∈sc a,b<n):∀(f:Nat) (m:List Bool) (a:Nat),m.length=n->a<n->unm n m<=f->DP sc n m (dvisit sc f m a) [a]:=by
 intro f
 induction f with
 |zero=>
  intro m a i q u;have j:mkd m a=true:=by
   cases e:mkd m a with
   |true=>rfl
   |false=>have:=zge i q e;omega
  exact⟨i,fun _ h=>h,fun p d=>by rw[List.mem_singleton]at d;rw[d];exact j,fun x h=>.inl h,fun x c g=>by
   have c:mkd m x=true:=c;rw[c]at g;cases g⟩
 |succ f ih=>
  intro m a i q u;unfold dvisit;by_cases j:m.getD a false=true
  .rw[if_pos j];exact⟨i,fun _ h=>h,fun p d=>by rw[List.mem_singleton]at d;rw[d];exact j,fun x h=>.inl h,fun x c g=>by rw[c]at g;cases g⟩
  .rw[if_neg j];have o:mkd m a=false:=by unfold mkd;simpa using j
   have l:=zki (m:=m) (a:=a) (by omega);have hu2:=zge i q o;have c:=zeq ih (sc a) (m.set a true) (hsc a) (by simp[i]) (by omega);refine⟨c.len,fun x k=>c.keep x (by rw[l];split<;>simp_all),?_,?_,?_⟩
   .intro p d;rw[List.mem_singleton]at d;rw[d];exact c.keep a (by rw[l,if_pos rfl])
   .intro x k;rcases c.rch x k with g|⟨p,d,hr⟩
    .rw[l]at g;split at g
     .exact .inr ⟨a,.head _,by subst x;exact .refl _⟩
     .exact .inl g
    .exact .inr ⟨a,.head _,.step d hr⟩
   .intro x k r y t;by_cases hxa:x=a
    .subst hxa;exact c.prc y t
    .exact c.suc x k (by rw[l,if_neg hxa];exact r) y t
theorem DP.closed {P:List Nat} (h:DP sc n m m' P) (hc:∀x,mkd m x=true->∀y∈sc x,mkd m y=true):
 (∀x,mkd m' x=true↔mkd m x=true\/∃p∈P,Reach sc p x)/\(∀x,mkd m' x=true->∀y∈sc x,mkd m' y=true):=by
 have b:∀x,mkd m' x=true->∀y∈sc x,mkd m' y=true:=fun x d y c=>by
  by_cases hm:mkd m x=true
  .exact h.keep y (hc x hm y c)
  .exact h.suc x d (by simpa using hm) y c
 refine⟨fun x=>⟨h.rch x,?_⟩,b⟩;rintro(h1|⟨p,hp,hr⟩)
 .exact h.keep x h1
 .exact hr.closed (p:=fun a=>mkd m' a=true) b (h.prc p hp)
end
theorem foldl_flat {α β γ:Type} (f:γ->β->γ) (g:α->List β) (L:List α) (p:γ):L.foldl (fun p i=>(g i).foldl f p) p=(L.flatMap g).foldl f p:=by
 induction L generalizing p with
 |nil=>rfl
 |cons x L ih=>rw[List.foldl_cons,List.flatMap_cons,List.foldl_append,ih]
def members (inn:Nat->Int) (n c:Nat):List Nat:=(List.range n).filter (fun i=>inn i==(c:Int))
def dstep (inn:Nat->Int) (c:Nat) (p:List Nat×Bool) (x:Nat):List Nat×Bool:=
 if inn x=(c:Int)then(p.1,false)else(p.1.set c (max (p.1.getD c 0) (p.1.getD (inn x).toNat 0)),p.2)
def dcomp (sc:Nat->List Nat) (inn:Nat->Int) (n:Nat) (sizes:List Nat) (p:List Nat×Bool) (c:Nat):List Nat×Bool:=
 let q:=(members inn n c).foldl (fun p i=>(sc i).foldl (dstep inn c) p) p
 (q.1.set c (q.1.getD c 0+sizes.getD c 0),q.2)
def dall (sc:Nat->List Nat) (inn:Nat->Int) (n:Nat) (sizes:List Nat):List Nat×Bool:=
 (List.range sizes.length).foldl (dcomp sc inn n sizes) (List.replicate sizes.length 0,true)
structure Long (sc:Nat->List Nat) (inn:Nat->Int) (n:Nat) (sz F:Nat->Nat):Prop where
 szs:∀u v,inn u=inn v->sz u=sz v
 same:∀u v,inn u=inn v->F u=F v
 up:∀u,u<n->∀x∈sc u,inn x≠inn u->sz u+F x<=F u
 att:∀v,v<n->F v=sz v\/∃u,u<n/\inn u=inn v/\∃x∈sc u,inn x≠inn u/\F v=sz v+F x
section
variable {sc:Nat->List Nat} {inn:Nat->Int} {n:Nat} {sizes:List Nat}
structure IP (inn:Nat->Int) (c:Nat) (b0:List Nat) (a0:Bool) (p:List Nat×Bool) (P:List Nat):Prop where
 len:p.1.length=b0.length
 far:∀k,k≠c->p.1.getD k 0=b0.getD k 0
 up:∀x∈P,inn x≠(c:Int)->b0.getD (inn x).toNat 0<=p.1.getD c 0
 att:p.1.getD c 0=0\/∃x∈P,inn x≠(c:Int)/\p.1.getD c 0=b0.getD (inn x).toNat 0
 ac:p.2=true↔a0=true/\∀x∈P,inn x≠(c:Int)
theorem IP.fold {c:Nat} {b0:List Nat} {a0:Bool} (hc:c<b0.length):∀(L P:List Nat) (p:List Nat×Bool),(∀x∈L,0<=inn x)->IP inn c b0 a0 p P->IP inn c b0 a0 (L.foldl (dstep inn c) p) (P++L):=by
 intro L
 induction L with
 |nil=>intro P p _ h;rw[List.append_nil];exact h
 |cons x L ih=>
  intro P p j h;rw[List.foldl_cons,show P++x::L=(P++[x])++L from by simp];refine ih _ _ (fun y hy=>j y (.tail _ hy)) ?_;have hx0:=j x (.head _);unfold dstep;by_cases hx:inn x=(c:Int)
  .rw[if_pos hx];refine⟨h.len,h.far,?_,?_,?_⟩
   .intro y hy d;rcases List.mem_append.1 hy with hy|hy
    .exact h.up y hy d
    .grind
   .rcases h.att with h1|⟨y,h1,h2⟩
    .exact .inl h1
    .grind
   .grind
  .rw[if_neg hx];have f:(inn x).toNat≠c:=fun e=>hx (by omega)
   have g:c<p.1.length:=by rw[h.len];exact hc
   have b:(p.1.set c (max (p.1.getD c 0) (p.1.getD (inn x).toNat 0))).getD c 0=max (p.1.getD c 0) (b0.getD (inn x).toNat 0):=by
    rw[za2 _ _ _ _ g,h.far _ f]
   refine⟨by simp[h.len],?_,?_,?_,?_⟩
   .intro k i;rw[getD_set_ne _ _ _ _ _ (Ne.symm i)];exact h.far k i
   .intro y hy d;rw[b];rcases List.mem_append.1 hy with hy|hy
    .have:=h.up y hy d;omega
    .grind
   .rw[b];by_cases hle:b0.getD (inn x).toNat 0<=p.1.getD c 0
    .rw[Nat.max_eq_left hle];rcases h.att with h1|⟨y,h1,h2⟩
     .exact .inl h1
     .grind
    .grind
   .rw[h.ac];constructor
    .grind
    .rintro⟨h1,h2⟩;exact⟨h1,fun y hy=>h2 y (List.mem_append_left _ hy)⟩
structure BI (sc:Nat->List Nat) (inn:Nat->Int) (n:Nat) (sizes:List Nat) (k:Nat) (p:List Nat×Bool):Prop where
 len:p.1.length=sizes.length
 rest:∀c,k<=c->p.1.getD c 0=0
 up:∀u,u<n->inn u<(k:Int)->∀x∈sc u,inn x≠inn u->sizes.getD (inn u).toNat 0+p.1.getD (inn x).toNat 0<=p.1.getD (inn u).toNat 0
 att:∀c,c<k->p.1.getD c 0=sizes.getD c 0\/∃u,u<n/\inn u=(c:Int)/\∃x∈sc u,inn x≠(c:Int)/\p.1.getD c 0=sizes.getD c 0+p.1.getD (inn x).toNat 0
 ac:p.2=true↔∀u,u<n->inn u<(k:Int)->∀x∈sc u,inn x≠inn u
theorem BI.next (hsc:∀a,∀b∈sc a,b<n) (hr:∀v,v<n->0<=inn v/\inn v<sizes.length) (hs:∀v,v<n->∀x∈sc v,inn x<=inn v) {c:Nat} {p:List Nat×Bool} (hc:c<sizes.length) (h:BI sc inn n sizes c p):
 BI sc inn n sizes (c+1) (dcomp sc inn n sizes p c):=by
 unfold dcomp;rw[foldl_flat];have i:∀x,x∈(members inn n c).flatMap sc↔∃u,u<n/\inn u=(c:Int)/\x∈sc u:=by
  intro x;simp[members,List.mem_flatMap,and_assoc]
 obtain⟨q,y⟩:∃q,((members inn n c).flatMap sc).foldl (dstep inn c) p=q:=⟨_,rfl⟩
 have l:IP inn c p.1 p.2 q ((members inn n c).flatMap sc):=by
  have A:IP inn c p.1 p.2 p []:=⟨rfl,fun _ _=>rfl,fun x f=>(by cases f),.inl (h.rest c (Nat.le_refl _)),⟨fun h=>⟨h,fun x f=>(by cases f)⟩,fun h=>h.1⟩⟩
  have:=IP.fold (by rw[h.len];exact hc) ((members inn n c).flatMap sc) [] p (fun x f=>by
   obtain⟨u,j,_,g⟩:=(i x).1 f;exact(hr x (hsc u x g)).1) A
  rw[y]at this;simpa using this
 rw[y];simp only;have t:q.1.length=sizes.length:=by rw[l.len,h.len]
 have e:(q.1.set c (q.1.getD c 0+sizes.getD c 0)).getD c 0=q.1.getD c 0+sizes.getD c 0:=za2 _ _ _ _ (by omega);have d:∀k,k≠c->(q.1.set c (q.1.getD c 0+sizes.getD c 0)).getD k 0=p.1.getD k 0:=fun k o=>by
  rw[getD_set_ne _ _ _ _ _ (Ne.symm o),l.far k o]
 refine⟨by simp[t],?_,?_,?_,?_⟩
 .intro k o;rw[d k (by omega)];exact h.rest k (by omega)
 .intro u j huk x f g;have r:=hr u j;have z:=hr x (hsc u x f);have w:=hs u j x f;rw[d (inn x).toNat (by omega)];by_cases hue:inn u=(c:Int)
  .rw[show(inn u).toNat=c from by omega,e];have:=l.up x ((i x).2 ⟨u,j,hue,f⟩) (by omega);omega
  .rw[d (inn u).toNat (by omega)];exact h.up u j (by omega) x f g
 .intro k o;by_cases hkc:k=c
  .subst hkc;rw[e];rcases l.att with r|⟨x,r,z,w⟩
   .left;omega
   .grind
  .rw[d k hkc];rcases h.att k (by omega)with r|⟨u,j,hue,x,g,z,w⟩
   .exact .inl r
   .grind
 .rw[l.ac,h.ac];constructor
  .grind
  .grind
theorem zu6 (hsc:∀a,∀b∈sc a,b<n) (hr:∀v,v<n->0<=inn v/\inn v<sizes.length) (hs:∀v,v<n->∀x∈sc v,inn x<=inn v):BI sc inn n sizes sizes.length (dall sc inn n sizes):=by
 unfold dall;have d:∀k,k<=sizes.length->BI sc inn n sizes k ((List.range k).foldl (dcomp sc inn n sizes) (List.replicate sizes.length 0,true)):=by
  intro k
  induction k with
  |zero=>
   intro _;refine⟨by simp,?_,?_,?_,?_⟩
   .grind
   .grind
   .intro c h;omega
   .grind
  |succ k ih=>
   intro hk;rw[List.range_succ,List.foldl_append];exact BI.next hsc hr hs (by omega) (ih (by omega))
 exact d _ (Nat.le_refl _)
theorem zn3 (hsc:∀a,∀b∈sc a,b<n) (hr:∀v,v<n->0<=inn v/\inn v<sizes.length) (hs:∀v,v<n->∀x∈sc v,inn x<=inn v):
 Long sc inn n (fun v=>sizes.getD (inn v).toNat 0) (fun v=>(dall sc inn n sizes).1.getD (inn v).toNat 0)/\((dall sc inn n sizes).2=true↔∀u,u<n->∀x∈sc u,inn x≠inn u):=by
 have h:=zu6 hsc hr hs;refine⟨⟨fun u v e=>by simp only[e],fun u v e=>by simp only[e],fun u c=>h.up u c (hr u c).2,fun v d=>?_⟩,?_⟩
 .have hv':=hr v d;rcases h.att (inn v).toNat (by omega)with h1|⟨u,c,hue,x,hxu,h2,h3⟩
  .exact .inl h1
  .grind
 .rw[h.ac];exact⟨fun h1 u c=>h1 u c (hr u c).2,fun h1 u c _=>h1 u c⟩
end
abbrev Str:=List UInt8
structure Nd where
 kind:Int
 text:Str
 ord:Bool
 keys:List Nat
 items:List Nat
deriving DecidableEq
def succ (ns:List Nd) (i:Nat):List Nat:=match ns[i]? with
 |some x=>x.keys++x.items
 |none=>[]
def Refs (ns:List Nd):Prop:=∀x∈ns,∀r∈x.keys++x.items,r<ns.length
theorem Refs.succ {ns:List Nd} (h:Refs ns):∀a,∀b∈succ ns a,b<ns.length:=by
 intro a b c;unfold Gr.succ at c;split at c
 .exact h _ (List.mem_of_getElem? ‹_›) b c
 .cases c
def allKeys (ns:List Nd):List Nat:=ns.flatMap (·.keys)
def refs (ns:List Nd):List Nat:=ns.flatMap (fun x=>x.keys++x.items)
def marks (ns:List Nd) (root:Nat):List Bool:=dvisit (succ ns) ns.length (List.replicate ns.length false) root
def inKeys (ns:List Nd):List Bool:=(allKeys ns).foldl (dvisit (succ ns) ns.length) (List.replicate ns.length false)
def cstep (l:List Nat) (x:Nat):List Nat:=l.set x (l.getD x 0+1)
def counts (ns:List Nd) (root:Nat):List Nat:=(refs ns).foldl cstep (cstep (List.replicate ns.length 0) root)
def sameF (ns:List Nd):Nat->Nat->Nat->Bool
 | 0,_,_=>false
 |f+1,i,j=>match ns[i]?,ns[j]? with
  |some a,some b=>
   if a.kind≠b.kind\/a.text≠b.text\/a.ord≠b.ord\/a.items.length≠b.items.length then false
   else if a.kind=10/\a.ord=false then
    (a.keys.zip a.items).all (fun x=>(b.keys.zip b.items).any (fun y=>sameF ns f x.1 y.1 && sameF ns f x.2 y.2))
   else(List.range a.items.length).all (fun k=>(a.kind != 10 || sameF ns f (a.keys.getD k 0) (b.keys.getD k 0)) && sameF ns f (a.items.getD k 0) (b.items.getD k 0))
  |_,_=>false
def twice1 (ns:List Nd) (f:Nat):List Nat->Bool
 | []=>false
 |x::l=>l.any (fun y=>sameF ns f y x) || twice1 ns f l
def twice (ns:List Nd) (f:Nat):Bool:=ns.any (fun x=>twice1 ns f x.keys)
def nameB (s:Str):Bool:=(s.all fun c=>(97<=c && c<=122) || (65<=c && c<=90) || (48<=c && c<=57) || c==95 || c==45 || c==46 || c==58) && decide (1<=s.length) && decide (s.length<=64)
def formB (sclr:Int->Str->Bool) (x:Nd):Bool:=
 if x.kind=9 then x.text.isEmpty && !x.ord && x.keys.isEmpty
 else if x.kind=10 then x.text.isEmpty && decide (x.keys.length=x.items.length)
 else if x.kind=11 then nameB x.text && !x.ord && x.keys.isEmpty && decide (x.items.length=1)
 else !x.ord && x.keys.isEmpty && x.items.isEmpty && sclr x.kind x.text
def depth (ns:List Nd) (root:Nat):Int×Bool:=
 let t:=tcomp (succ ns) ns.length root;let p:=dall (succ ns) t.cn ns.length t.sizes
 ((p.1.getD (t.cn root).toNat 0:Int)-1,p.2)
def checkN (sclr:Int->Str->Bool) (ns:List Nd) (root:Nat):Nat:=
 if¬(List.range ns.length).all (fun i=>(marks ns root).getD i false && formB sclr (ns.getD i ⟨0,[],false,[],[]⟩))then 3
 else if(List.range ns.length).any (fun i=>(inKeys ns).getD i false && (counts ns root).getD i 0 != 1)then 3
 else if twice ns ns.length then 8
 else if(depth ns root).1>32 then 5 else 0
section
variable {ns:List Nd} {root:Nat}
theorem zfu (n x:Nat):mkd (List.replicate n false) x=false:=by
 unfold mkd;simp[List.getD_eq_getElem?_getD,List.getElem?_replicate];split<;>rfl
theorem zc3 (n:Nat):unm n (List.replicate n false)<=n:=Nat.le_trans List.countP_le_length (by simp)
theorem zay (h:Refs ns) (hr:root<ns.length) (x:Nat):mkd (marks ns root) x=true↔Reach (succ ns) root x:=by
 have c:=(zbq h.succ ns.length (List.replicate ns.length false) root (by simp) hr (zc3 _)).closed (fun x b=>by rw[zfu]at b;cases b);rw[marks,c.1,zfu];simp
theorem zal (h:Refs ns) (x:Nat):mkd (inKeys ns) x=true↔∃k∈allKeys ns,Reach (succ ns) k x:=by
 have b:∀k∈allKeys ns,k<ns.length:=by
  intro k b;obtain⟨y,f,c⟩:=List.mem_flatMap.1 b;exact h y f k (List.mem_append_left _ c)
 have e:=(zeq (zbq h.succ ns.length) (allKeys ns) (List.replicate ns.length false) b (by simp) (zc3 _)).closed (fun x d=>by rw[zfu]at d;cases d);rw[inKeys,e.1,zfu];simp
theorem zls (h:Refs ns) (hr:root<ns.length) (hall:∀v,v<ns.length->Reach (succ ns) root v):∃(inn:Nat->Int) (sz F:Nat->Nat),
 (∀v,v<ns.length->0<=inn v)/\(∀v,v<ns.length->∀x∈succ ns v,inn x<=inn v)/\(∀u v,u<ns.length->v<ns.length->(inn u=inn v↔Reach (succ ns) u v/\Reach (succ ns) v u))/\
 (∀v,v<ns.length->sz v=(List.range ns.length).countP (fun i=>inn i==inn v))/\Long (succ ns) inn ns.length sz F/\(depth ns root).1=(F root:Int)-1/\((depth ns root).2=true↔∀u,u<ns.length->∀x∈succ ns u,inn x≠inn u):=by
 obtain⟨b,_⟩:=zkh h.succ root hr hall;obtain⟨e,d⟩:=zn3 h.succ b.rng b.suc;refine⟨_,_,_,fun v c=>(b.rng v c).1,b.suc,b.cmp,?_,e,rfl,d⟩;intro v c;have h3:=b.rng v c;rw[b.cnt _ (by omega)];apply List.countP_congr;intro i _;rw[show(((tcomp (succ ns) ns.length root).cn v).toNat:Int)=(tcomp (succ ns) ns.length root).cn v from by omega]
end
end Gr
structure Lay (α:Type) where
 enc:α->List Value
 sz:Nat
 len:∀x,(enc x).length=sz
 one:∀x,∀u∈enc x,u.oneCell'=true
 pos:0<sz
section
variable {α:Type} (L:Lay α)
def Lay.all (l:List α):List Value:=l.flatMap L.enc
theorem Lay.all_len (l:List α):(L.all l).length=l.length*L.sz:=by
 induction l with
 |nil=>simp[Lay.all]
 |cons x l ih=>simp only[Lay.all,List.flatMap_cons,List.length_append,L.len,List.length_cons,Nat.add_mul,Nat.one_mul]at *;omega
theorem Lay.all_append (l r:List α):L.all (l++r)=L.all l++L.all r:=by simp[Lay.all]
theorem Lay.all_one (l:List α):∀u∈L.all l,u.oneCell'=true:=by
 intro u a;simp only[Lay.all,List.mem_flatMap]at a;obtain⟨x,_,b⟩:=a;exact L.one x u b
theorem Lay.all_at (l:List α) (k:Nat) (x:α) (h:l[k]? =some x) (j:Nat) (u:Value) (hj:(L.enc x)[j]? =some u):(L.all l)[k*L.sz+j]? =some u:=by
 induction l generalizing k with
 |nil=>simp at h
 |cons y l ih=>
  have a:j<L.sz:=by
   have:=(List.getElem?_eq_some_iff.1 hj).1;rwa[L.len]at this
  cases k with
  |zero=>
   simp at h;subst h;simp only[Lay.all,List.flatMap_cons,Nat.zero_mul,Nat.zero_add];rw[List.getElem?_append_left (by rw[L.len];exact a)];exact hj
  |succ k=>
   simp at h;have:=ih k h;simp only[Lay.all,List.flatMap_cons]at this ⊢;rw[List.getElem?_append_right (by rw[L.len,Nat.add_mul];omega),L.len];rw[show(k+1)*L.sz+j-L.sz=k*L.sz+j from by rw[Nat.add_mul];omega];exact this
def RowAt (w:World) (B:Nat) (A:Option Addr) (l:List α):Prop:=Reads w B L.sz A l.length (L.all l)
def OwnRow (w:World) (base:Nat) (E:TypeId) (v:Value) (l:List α):Prop:=w.ownsRow base E L.sz v l.length (L.all l)
end
theorem zgc (a:Addr) (i j:Nat) (hj:0<j):a.add (i+j)={block:=(a.add i).block,off:=(a.add i).off+j}:=by
 unfold Addr.add;rw[if_neg (by omega)];split<;>simp_all<;>omega
section
variable {α:Type} {L:Lay α} {w w':World} {B B' base:Nat} {E:TypeId} {A:Option Addr} {v:Value} {l m:List α}
theorem RowAt.nil:RowAt L w B none []:=Reads.none_
theorem RowAt.get {k:Nat} (h:RowAt L w B A l) (hk:k<l.length):
 ∃ad,A=some ad/\ad.block<B/\(∀u,(L.enc l[k])[0]? =some u->w.cell? (ad.add (k*L.sz))=some u)/\
  ∀j u,0<j->(L.enc l[k])[j]? =some u->w.cell? {block:=(ad.add (k*L.sz)).block,off:=(ad.add (k*L.sz)).off+j}=some u:=by
 obtain⟨ad,e,f,c⟩:=h.2 (by omega);have b:l[k]? =some l[k]:=List.getElem?_eq_getElem hk;refine⟨ad,e,f,fun u a=>c _ _ ?_,fun j u d a=>?_⟩
 .have:=L.all_at l k l[k] b 0 u a;simpa using this
 .rw[<-zgc _ _ _ d];exact c _ _ (L.all_at l k l[k] b j u a)
theorem RowAt.below (h:RowAt L w B A l) (hb:Below B w w'):RowAt L w' B A l:=Reads.below h hb
theorem RowAt.more (h:RowAt L w B A l) (hB:B<=B'):RowAt L w B' A l:=Reads.more h hB
theorem RowAt.alloc (h:RowAt L w B A l) (hB:B<=w.heap.size) (o:Obj):RowAt L (w.alloc o) B A l:=Reads.alloc h hB o
theorem RowAt.drewN (h:RowAt L w B A l) (n:Nat):RowAt L (w.drewN n) B A l:=h
theorem OwnRow.nil:OwnRow L w base E (.slice none 0 0) []:=World.ownsRow_nil w base E L.sz
theorem OwnRow.form (h:OwnRow L w base E v l):∃A c,v=.slice A l.length c/\RowAt L w w.heap.size A l:=by
 have f:=h;rcases h.2 with⟨b,e⟩|⟨g,a,cur,b,_⟩
 .have d:l=[]:=List.eq_nil_of_length_eq_zero e;subst d;exact⟨none,0,b,RowAt.nil⟩
 .exact⟨_,a,b,Reads.of_own (c:=a) (by rw[<-b];exact f)⟩
theorem OwnRow.below (h:OwnRow L w base E v l) (hb:Below B w w') (hB:∀k,v.ownBlock=some k->k<B):OwnRow L w' base E v l:=by
 refine⟨h.1,?_⟩;rcases h.2 with hn|⟨g,cap,cur,rfl,hbg,hgg,rest⟩
 .exact .inl hn
 .exact .inr ⟨g,cap,cur,rfl,hbg,by rw[hb.block g (hB g (by simp[Value.ownBlock]))];exact hgg,rest⟩
theorem OwnRow.lt (h:OwnRow L w base E v l):∀k,v.ownBlock=some k->base<=k/\k<w.heap.size:=World.ownsRow.lt h
theorem OwnRow.later (h:OwnRow L w base E v l) (hb:Below w.heap.size w w'):OwnRow L w' base E v l:=h.below hb (fun k a=>(h.lt k a).2)
theorem OwnRow.alloc (h:OwnRow L w base E v l) (o:Obj):OwnRow L (w.alloc o) base E v l:=World.ownsRow.alloc h o
theorem OwnRow.drewN (h:OwnRow L w base E v l) (n:Nat):OwnRow L (w.drewN n) base E v l:=h
theorem grownBy_setCell' (w:World) (p:Addr) (u:Value):w.grownBy (w.setCell p u) (some p.block):=
 ⟨rfl,rfl,rfl,by simp[World.setCell],fun k _ a=>Below.heap_setCell w p u k (fun e=>a (by rw[e]))⟩
theorem OwnRow.setCell (h:OwnRow L w base E v l) {p:Addr} (hp:v.ownBlock≠some p.block) (u:Value):OwnRow L (w.setCell p u) base E v l:=
 World.ownsRow.kept h (grownBy_setCell' w p u) (.inr hp)
theorem OwnRow.grown_below (h:OwnRow L w base E v l) (hg:w.grownBy w' v.ownBlock) (hb:base<=w.heap.size):Below base w w':=
 (Below.refl base w).grown hg hb (fun k a=>(h.lt k a).1)
theorem OwnRow.ne_ (h:OwnRow L w base E v l) {g:Nat} (hg:w.heap.size<=g):some g≠v.ownBlock:=by
 intro e;have:=h.lt g e.symm;omega
theorem OwnRow.lower {base':Nat} (h:OwnRow L w base E v l) (hb:base'<=base):OwnRow L w base' E v l:=by
 refine⟨h.1,?_⟩;rcases h.2 with hn|⟨g,cap,cur,rfl,hbg,rest⟩
 .exact .inl hn
 .exact .inr ⟨g,cap,cur,rfl,by omega,rest⟩
theorem OwnRow.lit1 (hb:base<=w.heap.size) (x:α) (cs:Array Value) (hcs:cs.toList=L.enc x):
 OwnRow L (w.alloc (.cells cs E)) base E (.slice (some ⟨w.heap.size,0,none⟩) 1 1) [x]:=by
 have a:cs.size=L.sz:=by rw[<-Array.length_toList,hcs,L.len]
 refine⟨by simp[Lay.all,L.len],.inr ⟨w.heap.size,1,_,rfl,hb,heap_alloc_new w _,Nat.le_refl _,by simp[maxLen],by simp[a],?_⟩⟩;rw[hcs];simp[Lay.all,List.take_of_length_le,L.len]
theorem RowAt.lit1 (x:α) (cs:Array Value) (hcs:cs.toList=L.enc x) (n:Nat) (hn:n=w.heap.size):RowAt L (w.alloc (.cells cs E)) (w.heap.size+1) (some ⟨n,0,none⟩) [x]:=by
 subst hn;have h:=Reads.of_own (OwnRow.lit1 (L:=L) (E:=E) (Nat.le_refl w.heap.size) x cs hcs);rw[World.size_alloc]at h;exact h
end
structure SliceT (P:Program) {α:Type} (L:Lay α) (t e:TypeId) (bytes:Nat):Prop where
 und:P.underlying t=some (.slice e)
 info:∃i z,P.info? e=some i/\i.zero=some z/\i.size=L.sz/\i.bytes=bytes/\z.cells.size=L.sz
 small:bytes<=256
section
variable {P:Program} {α:Type} {L:Lay α} (w:World)
theorem zaa {ops:Array Oper} {rest:List Oper} {o:Oper} {a:Act} {Q:Exit->Act->World->Prop} (hgd:o.guard=none) (s x:Operand) (t e:TypeId) (bytes:Nat)
 (ho:o.op=.call {callee:=.builtin .append,args:=#[s,x],argTypes:=#[t,t]}) (hT:SliceT P L t e bytes)
 (base:Nat) (v:Value) (l:List α) (hs:a.eval s=v) (hown:OwnRow L w base e v l)
 (B:Nat) (A:Option Addr) (c:Nat) (m:List α) (hx:a.eval x=.slice A m.length c) (hr:RowAt L w B A m)
 (hlen:l.length+m.length<=1073741824) (hbase:base<=w.heap.size)
 (h:∀v' w',OwnRow L w' base e v' (l++m)->w.grownBy w' v.ownBlock->(v'.ownBlock=v.ownBlock\/v'.ownBlock=some w.heap.size)->wpList P ops Q rest (a.put o.dst v') w'):wpList P ops Q (o::rest) a w:=by
 obtain⟨i,z,p,b,d,f,g⟩:=hT.info;have hb:(l.length+m.length)*bytes<=1073741824*256:=Nat.mul_le_mul hlen hT.small;refine zdt w hgd s x t ho base e i z L.sz bytes hT.und p b d f g L.pos v l.length (L.all l) hs hown B A m.length c (L.all m) hx hr (L.all_one m) (by simp only[maxLen];omega) (by omega) hbase ?_;intro v' w' k j n;refine h v' w' ?_ j n;unfold OwnRow;rw[List.length_append,L.all_append];exact k
theorem zan {ops:Array Oper} {o:Oper} {a:Act} {K:Act->World->Prop} {Q:Exit->Act->World->Prop} {E:Prop} (hgd:o.guard=none) (s x:Operand) (t e:TypeId) (bytes:Nat)
 (ho:o.op=.call {callee:=.builtin .append,args:=#[s,x],argTypes:=#[t,t]}) (hT:SliceT P L t e bytes)
 (base:Nat) (v:Value) (l:List α) (hs:a.eval s=v) (hown:OwnRow L w base e v l)
 (B:Nat) (A:Option Addr) (c:Nat) (m:List α) (hx:a.eval x=.slice A m.length c) (hr:RowAt L w B A m)
 (hlen:l.length+m.length<=1073741824) (hbase:base<=w.heap.size)
 (h:∀v' w',OwnRow L w' base e v' (l++m)->w.grownBy w' v.ownBlock->(v'.ownBlock=v.ownBlock\/v'.ownBlock=some w.heap.size)->K (a.put o.dst v') w'):
 if Region.wanted o (yielded ops a.tmps)=true then Oper.wp P o a w K Q else E:=by
 obtain⟨i,z,p,b,d,f,g⟩:=hT.info;have hb:(l.length+m.length)*bytes<=1073741824*256:=Nat.mul_le_mul hlen hT.small;refine zep w hgd s x t ho base e i z L.sz bytes hT.und p b d f g L.pos v l.length (L.all l) hs hown B A m.length c (L.all m) hx hr (L.all_one m) (by simp only[maxLen];omega) (by omega) hbase ?_;intro v' w' k j n;refine h v' w' ?_ j n;unfold OwnRow;rw[List.length_append,L.all_append];exact k
end
structure za9 (w w':World) (S:Nat->Prop):Prop where
 os:w'.os=w.os
 tape:w'.tape=w.tape
 output:w'.output=w.output
 size:w.heap.size<=w'.heap.size
 block:∀k,k<w.heap.size->¬S k->w'.heap[k]? =w.heap[k]?
theorem za9.below {w w':World} {S:Nat->Prop} {B:Nat} (h:za9 w w' S) (hB:B<=w.heap.size) (hS:∀k,S k->B<=k):Below B w w':=
 ⟨h.os,h.tape,h.output,h.size,fun k hk=>h.block k (by omega) (fun a=>by have:=hS k a;omega)⟩
theorem za9.cell {w w':World} {S:Nat->Prop} (h:za9 w w' S) {g i:Nat} {v:Value} (hc:w.cell? ⟨g,i,none⟩=some v) (hS:¬S g):w'.cell? ⟨g,i,none⟩=some v:=
 (World.cell?_of_block (w:=w) (h.block g (World.block_lt_of_cell? w ⟨g,i,none⟩ hc) hS)).trans hc
theorem zau (s:List UInt8) (i j:Nat):(⟨s.toArray⟩:ByteArray).extract i j=⟨((s.drop i).take (j-i)).toArray⟩:=by
 apply ByteArray.ext;apply Array.ext';simp[ByteArray.extract,ByteArray.copySlice,List.extract]
section
variable {α:Type} {L:Lay α} {w:World} {B base:Nat} {E:TypeId} {A:Option Addr} {v:Value} {l:List α}
theorem Lay.all_drop (l:List α) (k:Nat):L.all (l.drop k)=(L.all l).drop (k*L.sz):=by
 induction l generalizing k with
 |nil=>simp[Lay.all]
 |cons x l ih=>
  cases k with
  |zero=>simp
  |succ k=>
   have e:L.all (x::l)=L.enc x++L.all l:=rfl;have a:(L.enc x).drop ((k+1)*L.sz)=[]:=List.drop_eq_nil_of_le (by rw[L.len,Nat.add_mul];omega);rw[List.drop_succ_cons,ih,e,List.drop_append,a,L.len,List.nil_append,show(k+1)*L.sz-L.sz=k*L.sz from by rw[Nat.add_mul];omega]
theorem Lay.all_take (l:List α) (k:Nat):L.all (l.take k)=(L.all l).take (k*L.sz):=by
 induction l generalizing k with
 |nil=>simp[Lay.all]
 |cons x l ih=>
  cases k with
  |zero=>simp[Lay.all]
  |succ k=>
   have e:L.all (x::l)=L.enc x++L.all l:=rfl;have a:L.all (x::l.take k)=L.enc x++L.all (l.take k):=rfl;have b:(L.enc x).take ((k+1)*L.sz)=L.enc x:=List.take_of_length_le (by rw[L.len,Nat.add_mul];omega);rw[List.take_succ_cons,a,ih,e,List.take_append,b,L.len,show(k+1)*L.sz-L.sz=k*L.sz from by rw[Nat.add_mul];omega]
theorem RowAt.take (h:RowAt L w B A l) (k:Nat) (hk:k<=l.length):RowAt L w B A (l.take k):=by
 refine⟨L.all_len _,fun f=>?_⟩;rw[List.length_take]at f;obtain⟨b,e,d,c⟩:=h.2 (by omega);refine⟨b,e,d,fun j u a=>c j u ?_⟩;rw[Lay.all_take,List.getElem?_take]at a;split at a
 .exact a
 .cases a
theorem RowAt.drop (h:RowAt L w B A l) {k cap:Nat} (hk:k<=l.length) (hc:l.length<=cap):RowAt L w B (if cap=k then A else A.map (·.add (k*L.sz))) (l.drop k):=by
 have:=Reads.cut h hk hc;unfold RowAt;rw[List.length_drop,Lay.all_drop];exact this
theorem RowAt.sub (h:RowAt L w B A l) {k m cap:Nat} (hkm:k<=m) (hm:m<=l.length) (hc:l.length<=cap):RowAt L w B (if cap=k then A else A.map (·.add (k*L.sz))) ((l.drop k).take (m-k)):=
 (h.drop (by omega) hc).take (m-k) (by rw[List.length_drop];omega)
end
section
variable {P:Program}
theorem run_slice_l (t e:TypeId) (i:TypeInfo) (ht:P.underlying t=some (.slice e)) (hi:P.info? e=some i) (a:Option Addr) (n c k:Nat) (hk:k<=n) (w:World):
 (Instr.slice t (.slice a n c) (some (.int .i64 (k:Int))) none none).run P w=.ok (.slice (if c=k then a else a.map (·.add (k*i.size))) (n-k) (c-k)) w:=by
 have b:∀code,(Instr.sliceBound (.int .i64 (k:Int)) n code).run P w=.ok k w:=fun code=>by
  rw[run_sliceBound (P:=P) (w:=w) .i64 k n code (by omega) (by omega)];simp
 simp[Instr.slice,run_underlying ht,Instr.sliceBounds,sizeOf,typeInfo,hi,b]
theorem run_slice_h (t e:TypeId) (i:TypeInfo) (ht:P.underlying t=some (.slice e)) (hi:P.info? e=some i) (a:Option Addr) (n c m:Nat) (hm:m<=c) (w:World):
 (Instr.slice t (.slice a n c) none (some (.int .i64 (m:Int))) none).run P w=.ok (.slice (if c=0 then a else a.map (·.add (0*i.size))) m c) w:=by
 have b:∀code,(Instr.sliceBound (.int .i64 (m:Int)) c code).run P w=.ok m w:=fun code=>by
  rw[run_sliceBound (P:=P) (w:=w) .i64 m c code (by omega) (by omega)];simp
 simp[Instr.slice,run_underlying ht,Instr.sliceBounds,sizeOf,typeInfo,hi,b]
theorem zhg (t e:TypeId) (i:TypeInfo) (ht:P.underlying t=some (.slice e)) (hi:P.info? e=some i) (a:Option Addr) (n c:Nat) (k:Int) (h0:0<=k) (hk:k<=n) (w:World):
 (Instr.slice t (.slice a n c) (some (.int .i64 k)) none none).run P w=.ok (.slice (if c=k.toNat then a else a.map (·.add (k.toNat*i.size))) (n-k.toNat) (c-k.toNat)) w:=by
 have:=run_slice_l (P:=P) t e i ht hi a n c k.toNat (by omega) w;rwa[show((k.toNat:Nat):Int)=k from by omega]at this
end
theorem cells2 {w:World} {g:Nat} {t:TypeId} {v0 v1:Value} {l:List Value} (h:Blk w g t (List.toArray (v0::v1::l))):w.cell? ⟨g,0,none⟩=some v0/\w.cell? ⟨g,1,none⟩=some v1:=⟨h.cell 0,h.cell 1⟩
theorem cells3 {w:World} {g:Nat} {t:TypeId} {v0 v1 v2:Value} {l:List Value} (h:Blk w g t (List.toArray (v0::v1::v2::l))):w.cell? ⟨g,0,none⟩=some v0/\w.cell? ⟨g,1,none⟩=some v1/\w.cell? ⟨g,2,none⟩=some v2:=⟨h.cell 0,h.cell 1,h.cell 2⟩
theorem cells4 {w:World} {g:Nat} {t:TypeId} {v0 v1 v2 v3:Value} {l:List Value} (h:Blk w g t (List.toArray (v0::v1::v2::v3::l))):w.cell? ⟨g,0,none⟩=some v0/\w.cell? ⟨g,1,none⟩=some v1/\w.cell? ⟨g,2,none⟩=some v2/\w.cell? ⟨g,3,none⟩=some v3:=⟨h.cell 0,h.cell 1,h.cell 2,h.cell 3⟩
theorem cells5 {w:World} {g:Nat} {t:TypeId} {v0 v1 v2 v3 v4:Value} {l:List Value} (h:Blk w g t (List.toArray (v0::v1::v2::v3::v4::l))):w.cell? ⟨g,0,none⟩=some v0/\w.cell? ⟨g,1,none⟩=some v1/\w.cell? ⟨g,2,none⟩=some v2/\w.cell? ⟨g,3,none⟩=some v3/\w.cell? ⟨g,4,none⟩=some v4:=⟨h.cell 0,h.cell 1,h.cell 2,h.cell 3,h.cell 4⟩
theorem zag {w:World} {g:Nat} {t:TypeId} {v0 v1 v2 v3 v4 v5 v6 v7 v8 v9 v10:Value} {l:List Value} (h:Blk w g t (List.toArray (v0::v1::v2::v3::v4::v5::v6::v7::v8::v9::v10::l))):w.cell? ⟨g,0,none⟩=some v0/\w.cell? ⟨g,1,none⟩=some v1/\w.cell? ⟨g,2,none⟩=some v2/\w.cell? ⟨g,3,none⟩=some v3/\w.cell? ⟨g,4,none⟩=some v4/\w.cell? ⟨g,5,none⟩=some v5/\w.cell? ⟨g,6,none⟩=some v6/\w.cell? ⟨g,7,none⟩=some v7/\w.cell? ⟨g,8,none⟩=some v8/\w.cell? ⟨g,9,none⟩=some v9/\w.cell? ⟨g,10,none⟩=some v10:=⟨h.cell 0,h.cell 1,h.cell 2,h.cell 3,h.cell 4,h.cell 5,h.cell 6,h.cell 7,h.cell 8,h.cell 9,h.cell 10⟩
theorem zah {w:World} {g:Nat} {t:TypeId} {v0 v1 v2 v3 v4 v5 v6 v7 v8 v9 v10 v11:Value} {l:List Value} (h:Blk w g t (List.toArray (v0::v1::v2::v3::v4::v5::v6::v7::v8::v9::v10::v11::l))):w.cell? ⟨g,0,none⟩=some v0/\w.cell? ⟨g,1,none⟩=some v1/\w.cell? ⟨g,2,none⟩=some v2/\w.cell? ⟨g,3,none⟩=some v3/\w.cell? ⟨g,4,none⟩=some v4/\w.cell? ⟨g,5,none⟩=some v5/\w.cell? ⟨g,6,none⟩=some v6/\w.cell? ⟨g,7,none⟩=some v7/\w.cell? ⟨g,8,none⟩=some v8/\w.cell? ⟨g,9,none⟩=some v9/\w.cell? ⟨g,10,none⟩=some v10/\w.cell? ⟨g,11,none⟩=some v11:=⟨h.cell 0,h.cell 1,h.cell 2,h.cell 3,h.cell 4,h.cell 5,h.cell 6,h.cell 7,h.cell 8,h.cell 9,h.cell 10,h.cell 11⟩
def T12 (a b c:Bool) (d e f g h i j k:Int) (l:Bool):Array Value:=#[.bool a,.bool b,.bool c,.int .i64 d,.int .i64 e,.int .i64 f,.int .i64 g,.int .i64 h,.int .i64 i,.int .i64 j,.int .i64 k,.bool l]
end Go.Proofs.YtpgmfihonmoliaaGreatDoor
namespace Go.Proofs
open _root_.Go.Proofs.Tryz
set_option maxRecDepth 100000
set_option maxHeartbeats 16000000
open Go.Shelf
theorem fx {α:Type _} {a:Option α} {b c:α} (h:a=some b) (e:b=c):a=some c:=h.trans (congrArg some e)
def Tryz.lays162_ren:Go.Shelf.Ren:=⟨fun| 162=>123| 232=>153| 227=>154| 234=>155| 236=>156| 228=>184| 271=>185| 151=>186| 120=>199| 197=>57| 152=>200| 260=>88| 137=>72| 119=>204| 224=>172| 225=>171| 217=>102| 266=>133|n=>n,fun| 9=>9| 4=>4| 3=>3| 5=>5| 117=>193| 116=>192| 0=>0| 124=>196| 21=>21| 105=>92| 46=>161| 119=>160| 139=>164| 138=>163|n=>n,fun| 3=>1| 4=>2|n=>n⟩
theorem Tryz.lays162:Go.Proofs.Lays.n162 prog lays162_ren:=by repeat' (first|kernel_rfl| (intro w;kernel_rfl)|constructor|decide)
open Go.RowKit in
theorem Tryz.strings_TrimRight_one (s:ByteArray) (c:UInt8) (hc:c.toNat<128) (w:World) (hs:s.size<=9223372036854775807):
 Calls prog 123 #[.string s,.string ⟨#[c]⟩] w fun e w'=>e=.returned (.string ⟨(Lib.trimRightB s.data.toList c).toArray⟩)/\w'=w:=Any.strings_TrimRight_one lays162 s c hc w hs
def Tryz.lays137_ren:Go.Shelf.Ren:=⟨fun| 137=>72| 217=>102| 266=>133|n=>n,fun| 9=>9| 5=>5| 3=>3|n=>n,fun|n=>n⟩
theorem Tryz.lays137:Go.Proofs.Lays.n137 prog lays137_ren:=by repeat' (first|kernel_rfl| (intro w;kernel_rfl)|constructor|decide)
open Go.RowKit in
theorem Tryz.strings_IndexByte (s:ByteArray) (c:Int) (w:World):
 Calls prog 72 #[.string s,.int .u8 c] w fun e w'=>e=.returned (.int .i64 (Lib.indexByte s.data.toList c.toNat.toUInt8))/\w'=w:=Any.strings_IndexByte lays137 s c w
def Tryz.lays103_ren:Go.Shelf.Ren:=⟨fun| 103=>79| 210=>108| 206=>139|n=>n,fun| 9=>9| 4=>4| 24=>121| 3=>3|n=>n,fun|n=>n⟩
theorem Tryz.lays103:Go.Proofs.Lays.n103 prog lays103_ren:=by repeat' (first|kernel_rfl| (intro w;kernel_rfl)|constructor|decide)
open Go.RowKit in
theorem Tryz.strings_CutPrefix (s p:ByteArray) (w:World):
 Calls prog 79 #[.string s,.string p] w fun e w'=>e=.returned (.tuple #[.string ⟨(Lib.trimPrefix s.data.toList p.data.toList).toArray⟩,.bool (Lib.hasPrefix s.data.toList p.data.toList)])/\w'=w:=Any.strings_CutPrefix lays103 s p w
def Tryz.lays129_ren:Go.Shelf.Ren:=⟨fun| 129=>112|n=>n,fun| 53=>105| 3=>3| 4=>4| 46=>161| 5=>5| 9=>9|n=>n,fun|n=>n⟩
theorem Tryz.lays129:Go.Proofs.Lays.n129 prog lays129_ren:=by repeat' (first|kernel_rfl| (intro w;kernel_rfl)|constructor|decide)
theorem Tryz.bits_Len64 (x:Int) (w:World) (h0:0<=x) (h1:x<=18446744073709551615):
 Calls prog 112 #[.int .u64 x] w fun e w'=>e=.returned (.int .i64 (Lib.bitLen x.toNat))/\w'=w:=Any.bits_Len64 lays129 x w h0 h1
def Tryz.lays283_ren:Go.Shelf.Ren:=⟨fun| 283=>174|n=>n,fun| 3=>3| 9=>9| 4=>4|n=>n,fun|n=>n⟩
theorem Tryz.lays283:Go.Proofs.Lays.n283 prog lays283_ren:=by repeat' (first|kernel_rfl| (intro w;kernel_rfl)|constructor|decide)
open Go.Lib in
theorem Tryz.internal_strconv_small (i:Nat) (h:i<100) (w:World):
 Calls prog 174 #[.int .i64 i] w fun e w'=>e=.returned (.string ⟨(Lib.decDigits i).toArray⟩)/\w'=w:=Any.internal_strconv_small lays283 i h w
def Tryz.laysM284_ren:Go.Shelf.Ren:=⟨fun| 284=>175| 129=>112| 317=>191| 318=>192|n=>n,fun| 53=>105| 3=>3| 212=>232| 0=>0| 4=>4| 46=>161| 5=>5| 9=>9|n=>n,fun| 17=>7|n=>n⟩
theorem Tryz.laysM284:Go.Proofs.LaysM.n284 prog laysM284_ren:=by repeat' (first|kernel_rfl| (intro w;kernel_rfl)|constructor|decide)
open Go.Lib in
theorem Tryz.internal_strconv_numDigits (u:Nat) (h1:1<=u) (h2:u<18446744073709551616) (w:World) (htab:Lib.TabIs prog w "internal/strconv.uint64pow10" .u64 Lib.pow10Tab):
 Calls prog 175 #[.int .u64 u] w fun e w'=>e=.returned (.int .i64 (Lib.nDigits u))/\w'=w:=Any.internal_strconv_numDigits laysM284 u h1 h2 w htab
def Tryz.lays285_ren:Go.Shelf.Ren:=⟨fun| 285=>176|n=>n,fun| 37=>80| 53=>105| 3=>3| 4=>4| 51=>228| 9=>9| 5=>5| 0=>0|n=>n,fun|n=>n⟩
theorem Tryz.lays285:Go.Proofs.Lays.n285 prog lays285_ren:=by repeat' (first|kernel_rfl| (intro w;kernel_rfl)|constructor|decide)
open Go.RowKit Go.Sort Go.Lib in
theorem Tryz.internal_strconv_formatBase10 (blk off cap:Nat) (u:Nat) (d:Array UInt8) (w:World) (hH:Holds (fun(b:UInt8)=>Value.int .u8 (b.toNat:Int)) w blk off d) (hu:u<10 ^ d.size) (hu64:u<18446744073709551616) (hsz:d.size<4611686018427387904):
 Calls prog 176 #[.slice (some ⟨blk,off,none⟩) d.size cap,.int .u64 u] w fun e w'=>
  e=.returned (.tuple #[])/\∃(n v':Nat) (dk:Array UInt8),w'=(putRow (fun(b:UInt8)=>Value.int .u8 (b.toNat:Int)) w blk off dk).drewN n/\FmtInv d.size u 0 v' dk:=Any.internal_strconv_formatBase10 lays285 blk off cap u d w hH hu hu64 hsz
def Tryz.laysM171_ren:Go.Shelf.Ren:=⟨fun| 171=>107| 243=>142| 246=>170| 283=>174| 284=>175| 285=>176| 286=>177| 129=>112| 317=>191| 318=>192| 319=>193| 320=>194| 337=>201| 338=>149|n=>n,fun| 3=>3| 9=>9| 2=>2| 4=>4| 171=>210| 0=>0| 53=>105| 37=>80| 5=>5| 173=>212| 212=>232| 51=>228| 20=>20| 213=>233| 46=>161| 232=>244| 233=>209|n=>n,fun| 17=>7| 18=>8| 19=>6|n=>n⟩
theorem Tryz.laysM171:Go.Proofs.LaysM.n171 prog laysM171_ren:=by repeat' (first|kernel_rfl| (intro w;kernel_rfl)|constructor|decide)
open Go.RowKit Go.Sort Go.Lib in
theorem Tryz.strconv_Itoa (n:Int) (h0:-9223372036854775808<=n) (h1:n<=9223372036854775807) (w:World) (htab:Lib.TabIs prog w "internal/strconv.uint64pow10" .u64 Lib.pow10Tab):
 Calls prog 107 #[.int .i64 n] w fun e w'=>e=.returned (.string ⟨(Lib.itoa n).toArray⟩)/\∃k os,w'=grow (w.drewN k) os:=Any.strconv_Itoa laysM171 n h0 h1 w htab
def Tryz.laysC172_ren:Go.Shelf.Ren:=⟨fun| 172=>73| 244=>103| 245=>104| 247=>134| 279=>135| 280=>136| 281=>137| 282=>138| 287=>111| 316=>168| 171=>107| 205=>169| 321=>144| 322=>145| 243=>142| 246=>170| 283=>174| 284=>175| 285=>176| 286=>177| 129=>112| 317=>191| 318=>192| 319=>193| 320=>194| 337=>201| 338=>149|n=>n,fun| 9=>9| 3=>3| 75=>113| 76=>114| 4=>4| 5=>5| 167=>175| 37=>80| 0=>0| 85=>176| 2=>2| 168=>178| 53=>105| 175=>127| 46=>161| 210=>206| 127=>224| 145=>227| 143=>225| 21=>21| 171=>210| 173=>212| 212=>232| 51=>228| 20=>20| 213=>233| 232=>244| 233=>209| 80=>120|n=>n,fun| 15=>4| 16=>5| 17=>7| 18=>8| 19=>6|n=>n⟩
theorem Tryz.laysC172:Go.Proofs.LaysC.n172 prog laysC172_ren:=by repeat' (first|kernel_rfl| (intro w;kernel_rfl)|constructor|decide)
def Tryz.badI:Lib.NumEnd Int:=Lib.atoiAll []
def Tryz.badN:Lib.NumEnd Nat:=Lib.parseUintB 64 []
open Go.RowKit in
theorem Tryz.strconv_Atoi_ok (s:ByteArray) (hmax:s.size<=9223372036854775806) (v:Int) (h:Lib.atoiAll s.data.toList=.ok v) (w:World):
 Calls prog 73 #[.string s] w fun e w'=>e=.returned (.tuple #[.int .i64 v,.nilIface])/\(w'=w\/∃t,w'=Lib.bytesWorld w 5 t):=Any.strconv_Atoi_ok laysC172 s hmax v h w
open Go.RowKit in
theorem Tryz.strconv_Atoi_syntax (s:ByteArray) (hlim:s.size<=281474976710656) (h:Lib.atoiAll s.data.toList=badI) (ev:Value) (w:World) (hv:w.cell? ⟨4,0,none⟩=some ev) (hev:ev=.nilIface\/∃te pe,ev=.iface te pe):
 Calls prog 73 #[.string s] w fun e w'=>∃N,e=.returned (.tuple #[.int .i64 (0),.iface 178 (.pointer (some ⟨N,0,none⟩))])/\w.heap.size<=N/\w'.heap[N]? =some (.cells #[.string ⟨#[65,116,111,105]⟩,.string s,ev] 206 (0,0))/\Below w.heap.size w w':=Any.strconv_Atoi_syntax laysC172 s hlim h ev w hv hev
open Go.RowKit in
theorem Tryz.strconv_Atoi_range (s:ByteArray) (hlim:s.size<=281474976710656) (h:Lib.atoiAll s.data.toList=.range) (ev:Value) (w:World) (hv:w.cell? ⟨5,0,none⟩=some ev) (hev:ev=.nilIface\/∃te pe,ev=.iface te pe):
 Calls prog 73 #[.string s] w fun e w'=>∃N,e=.returned (.tuple #[.int .i64 (Lib.atoiSat s.data.toList),.iface 178 (.pointer (some ⟨N,0,none⟩))])/\w.heap.size<=N/\w'.heap[N]? =some (.cells #[.string ⟨#[65,116,111,105]⟩,.string s,ev] 206 (0,0))/\Below w.heap.size w w':=Any.strconv_Atoi_range laysC172 s hlim h ev w hv hev
def Tryz.laysPu14_ren:Go.Shelf.Ren:=⟨fun| 14=>83| 16=>111| 17=>104| 19=>144| 20=>145| 21=>135| 22=>136| 23=>137| 24=>138| 25=>168| 27=>107| 26=>169| 28=>142| 29=>170| 30=>174| 31=>175| 32=>176| 33=>177| 35=>112| 34=>191| 36=>192| 37=>193| 38=>194| 39=>201| 40=>149|n=>n,fun| 9=>9| 3=>3| 22=>105| 24=>113| 25=>127| 4=>4| 34=>175| 5=>5| 36=>161| 37=>80| 0=>0| 39=>178| 21=>21| 44=>206| 47=>224| 50=>227| 48=>225| 2=>2| 52=>210| 55=>212| 59=>232| 60=>228| 20=>20| 61=>233| 65=>244| 66=>209| 67=>120|n=>n,fun| 0=>4| 1=>5| 2=>7| 3=>8| 4=>6|n=>n⟩
theorem Tryz.laysPu14:Go.Proofs.LaysPu.n14 prog laysPu14_ren:=by repeat' (first|kernel_rfl| (intro w;kernel_rfl)|constructor|decide)
open Go.RowKit in
theorem Tryz.strconv_ParseUint_10_at64_ok (s:ByteArray) (hmax:s.size<=9223372036854775806) (u:Nat) (h:Lib.parseUintB 64 s.data.toList=.ok u) (w:World):
 Calls prog 83 #[.string s,.int .i64 10,.int .i64 64] w fun e w'=>e=.returned (.tuple #[.int .u64 u,.nilIface])/\(w'=w\/w'=Lib.bytesWorld w 5 s):=Any.strconv_ParseUint_10_at64_ok laysPu14 s hmax u h w
open Go.RowKit in
theorem Tryz.strconv_ParseUint_10_at64_syntax (s:ByteArray) (hlim:s.size<=281474976710656) (h:Lib.parseUintB 64 s.data.toList=badN) (ev:Value) (w:World) (hv:w.cell? ⟨4,0,none⟩=some ev) (hev:ev=.nilIface\/∃te pe,ev=.iface te pe):
 Calls prog 83 #[.string s,.int .i64 10,.int .i64 64] w fun e w'=>∃N,e=.returned (.tuple #[.int .u64 0,.iface 178 (.pointer (some ⟨N,0,none⟩))])/\w.heap.size<=N/\w'.heap[N]? =some (.cells #[.string ⟨#[80,97,114,115,101,85,105,110,116]⟩,.string s,ev] 206 (0,0))/\Below w.heap.size w w':=Any.strconv_ParseUint_10_at64_syntax laysPu14 s hlim h ev w hv hev
open Go.RowKit in
theorem Tryz.strconv_ParseUint_10_at64_range (s:ByteArray) (hlim:s.size<=281474976710656) (h:Lib.parseUintB 64 s.data.toList=.range) (ev:Value) (w:World) (hv:w.cell? ⟨5,0,none⟩=some ev) (hev:ev=.nilIface\/∃te pe,ev=.iface te pe):
 Calls prog 83 #[.string s,.int .i64 10,.int .i64 64] w fun e w'=>∃N,e=.returned (.tuple #[.int .u64 18446744073709551615,.iface 178 (.pointer (some ⟨N,0,none⟩))])/\w.heap.size<=N/\w'.heap[N]? =some (.cells #[.string ⟨#[80,97,114,115,101,85,105,110,116]⟩,.string s,ev] 206 (0,0))/\Below w.heap.size w w':=Any.strconv_ParseUint_10_at64_range laysPu14 s hlim h ev w hv hev
def Tryz.lays101_ren:Go.Shelf.Ren:=⟨fun| 101=>74| 208=>105| 206=>139|n=>n,fun| 9=>9| 4=>4| 3=>3|n=>n,fun|n=>n⟩
theorem Tryz.lays101:Go.Proofs.Lays.n101 prog lays101_ren:=by repeat' (first|kernel_rfl| (intro w;kernel_rfl)|constructor|decide)
open Go.RowKit Go.Lib in
theorem Tryz.strings_TrimPrefix (s p:ByteArray) (w:World):
 Calls prog 74 #[.string s,.string p] w fun e w'=>e=.returned (.string ⟨(Lib.trimPrefix s.data.toList p.data.toList).toArray⟩)/\w'=w:=Any.strings_TrimPrefix lays101 s p w
def Tryz.lays105_ren:Go.Shelf.Ren:=⟨fun| 105=>152| 212=>178| 99=>179| 165=>180| 166=>181| 170=>182| 169=>183| 263=>195| 264=>196| 206=>139| 240=>197| 241=>198| 276=>202| 277=>203|n=>n,fun| 9=>9| 3=>3| 4=>4| 20=>20| 0=>0| 46=>161| 109=>214| 5=>5| 72=>218| 76=>114| 51=>228| 146=>229| 53=>105| 148=>236| 70=>216| 37=>80| 75=>113| 127=>224| 164=>240| 80=>120|n=>n,fun|n=>n⟩
theorem Tryz.lays105:Go.Proofs.Lays.n105 prog lays105_ren:=by repeat' (first|kernel_rfl| (intro w;kernel_rfl)|constructor|decide)
theorem Tryz.Builder_Extra_105:Builder.Extra prog lays105_ren:=by repeat' (first|kernel_rfl| (intro w;kernel_rfl)|constructor|decide)
open Go.RowKit Go.Lib in
theorem Tryz.strings_Repeat (s:ByteArray) (c:Nat) (w:World) (hc:c<=9223372036854775807) (hlen:s.size*c<=140737488355328):
 Calls prog 152 #[.string s,.int .i64 c] w fun e w'=>e=.returned (.string ⟨(Lib.repeatL s.data.toList c).toArray⟩)/\Below w.heap.size w w':=Any.strings_Repeat lays105 Builder_Extra_105 s c w hc hlen
def Tryz.lays197_ren:Go.Shelf.Ren:=⟨fun| 197=>57| 260=>88|n=>n,fun| 9=>9| 21=>21| 3=>3| 4=>4| 5=>5| 105=>92| 119=>160| 0=>0| 46=>161| 139=>164| 138=>163|n=>n,fun| 3=>1| 4=>2|n=>n⟩
theorem Tryz.lays197:Go.Proofs.Lays.n197 prog lays197_ren:=by repeat' (first|kernel_rfl| (intro w;kernel_rfl)|constructor|decide)
open Go.RowKit Go.Lib in
theorem Tryz.utf8_DecodeRuneInString (s:ByteArray) (w:World) (hT:Lib.Utf8Tabs 1 2 w):
 Calls prog 57 #[.string s] w fun e w'=>e=.returned (.tuple #[.int .i32 (Lib.decodeGo s).1,.int .i64 (Lib.decodeGo s).2])/\Below w.heap.size w w':=Any.utf8_DecodeRuneInString lays197 s w hT
end Go.Proofs
namespace Go.Proofs.YtpgmfihonmoliaaGreatDoor
namespace Gr
def dig (c:UInt8):Bool:=48<=c && c<=57
theorem zbh (c:UInt8):dig c=true↔48<=c.toNat/\c.toNat<=57:=by
 unfold dig;rw[Bool.and_eq_true,decide_eq_true_iff,decide_eq_true_iff,UInt8.le_iff_toNat_le,UInt8.le_iff_toNat_le];exact Iff.rfl
def dv (c:UInt8):Nat:=c.toNat-48
def val (l:List UInt8):Nat:=l.foldl (fun n c=>10*n+dv c) 0
theorem zvf:val []=0:=rfl
theorem zbl (l:List UInt8) (c:UInt8):val (l++[c])=10*val l+dv c:=by unfold val;rw[List.foldl_append];rfl
theorem foldv (l:List UInt8) (a:Nat):l.foldl (fun n c=>10*n+dv c) a=a*10 ^ l.length+val l:=by
 induction l generalizing a with
 |nil=>simp[val]
 |cons c l ih=>
  unfold val;rw[List.foldl_cons,List.foldl_cons,ih,ih (10*0+dv c),List.length_cons,Nat.pow_succ];rw[Nat.add_mul,Nat.mul_zero,Nat.zero_add,Nat.add_assoc]
  congr 1
  rw[Nat.mul_comm 10 a,Nat.mul_assoc,Nat.mul_comm 10]
theorem zei (c:UInt8) (l:List UInt8):val (c::l)=dv c*10 ^ l.length+val l:=by
 unfold val;rw[List.foldl_cons,foldv,Nat.mul_zero,Nat.zero_add];rfl
theorem ze1 (l:List UInt8) (h:l.all dig=true):val l<10 ^ l.length:=by
 induction l with
 |nil=>simp[val]
 |cons c l ih=>
  rw[List.all_cons,Bool.and_eq_true,zbh]at h;have:=ih h.2;rw[zei,List.length_cons,Nat.pow_succ];have a:dv c<=9:=by unfold dv;omega
  have:dv c*10 ^ l.length<=9*10 ^ l.length:=Nat.mul_le_mul_right _ a;omega
theorem zaw {u:Nat} (h:¬u<10):Lib.decDigits u=Lib.decDigits (u /10)++[UInt8.ofNat (48+u%10)]:=by
 rw[Lib.decDigits,dif_neg h]
theorem zog (k:Nat) (h:k<10):dig (UInt8.ofNat (48+k))=true:=by
 rw[zbh,UInt8.toNat_ofNat'];omega
theorem zvg (k:Nat) (h:k<10):dv (UInt8.ofNat (48+k))=k:=by
 unfold dv;rw[UInt8.toNat_ofNat'];omega
theorem zaj (u:Nat):(Lib.decDigits u).all dig=true:=by
 induction u using Nat.strongRecOn with
 |_ u ih=>
  by_cases h:u<10
  .rw[Lib.decDigits_one h,List.all_cons,zog u h];rfl
  .rw[zaw h,List.all_append,ih _ (by omega),List.all_cons,zog (u%10) (by omega)];rfl
theorem zak (u:Nat):val (Lib.decDigits u)=u:=by
 induction u using Nat.strongRecOn with
 |_ u ih=>
  by_cases h:u<10
  .rw[Lib.decDigits_one h,zei,zvg u h];simp[val]
  .rw[zaw h,zbl,ih _ (by omega),zvg _ (by omega)];omega
theorem zaz (u:Nat):Lib.decDigits u≠[]:=by
 intro h;have:=Lib.decDigits_length u;rw[h]at this;have:=Lib.nDigits_pos u;simp at *;omega
theorem zgk (l m:List UInt8) (h:l≠[]):(l++m).head?=l.head?:=by
 cases l with
 |nil=>exact absurd rfl h
 |cons a l=>rfl
theorem zkm {P:List UInt8->Prop} (h0:P []) (h1:∀l c,P l->P (l++[c])):∀l,P l:=by
 have b:∀l:List UInt8,P l.reverse:=by
  intro l
  induction l with
  |nil=>exact h0
  |cons a l ih=>rw[List.reverse_cons];exact h1 _ _ ih
 intro l;have:=b l.reverse;rwa[List.reverse_reverse]at this
theorem zc2 (u:Nat) (h0:u≠0):(Lib.decDigits u).head?≠some 48:=by
 induction u using Nat.strongRecOn with
 |_ u ih=>
  by_cases h:u<10
  .rw[Lib.decDigits_one h];intro e;simp only[List.head?_cons,Option.some.injEq]at e;have:=congrArg UInt8.toNat e;rw[UInt8.toNat_ofNat']at this;simp at this;omega
  .rw[zaw h,zgk _ _ (zaz _)];exact ih _ (by omega) (by omega)
theorem zht (l:List UInt8) (hne:l≠[]) (hd:l.all dig=true) (hz:l.head?≠some 48\/l.length=1):Lib.decDigits (val l)=l:=by
 revert hne hd hz
 refine zkm (P:=fun l=>l≠[]->l.all dig=true->(l.head?≠some 48\/l.length=1)->Lib.decDigits (val l)=l) (fun h=>absurd rfl h) ?_ l;intro l c f hne hd hz
 .rw[List.all_append,Bool.and_eq_true]at hd;have g:dig c=true:=by simpa using hd.2
  have hcv:=(zbh c).1 g;have b:UInt8.ofNat (48+dv c)=c:=by
   unfold dv;rw[show 48+(c.toNat-48)=c.toNat from by omega];simp
  have e:dv c<10:=by unfold dv;omega
  rw[zbl];by_cases hl:l=[]
  .subst hl;rw[zvf,Nat.mul_zero,Nat.zero_add,Lib.decDigits_one e,b];rfl
  .have d:l.head?≠some 48:=by
    rcases hz with h|h
    .rwa[zgk _ _ hl]at h
    .simp at h;exact absurd h hl
   have a:=f hl hd.1 (.inl d);have hpos:1<=val l:=by
    rcases Nat.eq_zero_or_pos (val l)with h0|h0
    .rw[h0,Lib.decDigits_one (by omega)]at a;exact absurd (by rw[<-a];rfl) d
    .exact h0
   rw[zaw (by omega),show(10*val l+dv c) /10=val l from by omega,show(10*val l+dv c)%10=dv c from by omega,a,b]
theorem zhu (c:UInt8):Lib.digitVal c=if dig c=true then some (dv c)else none:=by
 unfold Lib.digitVal;by_cases h:dig c=true
 .rw[if_pos h,if_pos ((zbh c).1 h)];rfl
 .rw[if_neg h,if_neg (fun e=>h ((zbh c).2 e))]
theorem zji (l:List UInt8) (a:Nat):Lib.decFrom a l=if l.all dig=true then some (a*10 ^ l.length+val l)else none:=by
 induction l generalizing a with
 |nil=>simp[Lib.decFrom,val]
 |cons c l ih=>
  unfold Lib.decFrom;rw[zhu];by_cases h:dig c=true
  .rw[if_pos h];simp only;rw[ih,List.all_cons,h,Bool.true_and];by_cases h2:l.all dig=true
   .rw[if_pos h2,if_pos h2,zei,List.length_cons,Nat.pow_succ,Nat.add_mul,<-Nat.add_assoc,Nat.mul_assoc,Nat.mul_comm 10]
   .rw[if_neg h2,if_neg h2]
  .grind
theorem zfx (l:List UInt8):Lib.decNat l=if l≠[]/\l.all dig=true then some (val l)else none:=by
 unfold Lib.decNat;cases l with
 |nil=>simp
 |cons c l=>
  rw[List.isEmpty_cons,if_neg (by simp),zji,Nat.zero_mul,Nat.zero_add];by_cases h:(c::l).all dig=true
  .grind
  .grind
theorem zhv (n:Int):Lib.atoi (Lib.itoa n)=some n:=by
 unfold Lib.itoa;by_cases h:n<0
 .rw[if_pos h];unfold Lib.atoi;simp only[beq_self_eq_true,if_true];rw[zfx,if_pos ⟨zaz _,zaj _⟩,zak];simp;omega
 .rw[if_neg h];have i:=zaz n.toNat;have a:=zaj n.toNat;have b:=zak n.toNat;cases hd:Lib.decDigits n.toNat with
  |nil=>exact absurd hd i
  |cons c l=>
   rw[hd]at a b;have j:dig c=true:=by rw[List.all_cons,Bool.and_eq_true]at a;exact a.1
   have d:=(zbh c).1 j;unfold Lib.atoi;have f:(c==45)=false:=by
    rw[beq_eq_false_iff_ne];intro e;subst e;revert d;decide
   have g:(c==43)=false:=by
    rw[beq_eq_false_iff_ne];intro e;subst e;revert d;decide
   simp only[f,g,Bool.false_eq_true,if_false];rw[zfx,if_pos ⟨by simp,a⟩,b];simp;omega
theorem zbn (k u:Nat) (h:u<10 ^ (k+1)):Lib.nDigits u<=k+1:=by
 induction k generalizing u with
 |zero=>rw[Lib.nDigits_small (by simpa using h)];exact Nat.le_refl _
 |succ k ih=>
  by_cases h1:u<10
  .rw[Lib.nDigits_small h1];omega
  .rw[Lib.nDigits_big h1];have:=ih (u /10) (by rw[Nat.pow_succ]at h;omega);omega
theorem zc6 (n:Int) (k:Nat) (h:n.natAbs<10 ^ (k+1)):(Lib.itoa n).length<=k+2:=by
 unfold Lib.itoa;split
 .rw[List.length_cons,Lib.decDigits_length];have:=zbn k _ h;omega
 .rw[Lib.decDigits_length];have:=zbn k n.toNat (by omega);omega
def intS (n:List UInt8):List UInt8:=if n.length>1/\n.head?=some 45 then n.tail else n
def intB (n:List UInt8):Bool:=if(intS n).length=0\/(intS n).length>400\/((intS n).head?=some 48/\n.length>1)then false else(intS n).all dig
structure Dn where
 neg:Bool
 d:List Nat
 e:Int
def isZ (x:Nat):Bool:=x==0
def rz (d:List Nat):List Nat:=(d.reverse.dropWhile isZ).reverse
def zeroD:Dn:=⟨false,[],0⟩
def norm (neg:Bool) (d:List Nat) (e:Int):Dn:=
 if d.dropWhile isZ=[]then zeroD else⟨neg,rz (d.dropWhile isZ),e+(((d.dropWhile isZ).length-(rz (d.dropWhile isZ)).length:Nat):Int)⟩
def ch (v:Nat):UInt8:=UInt8.ofNat (48+v)
def vals (s:List UInt8):List Nat:=s.map dv
def coef (x:Dn):List UInt8:=if x.d=[]then[48]else(if x.neg=true then[45]else[])++x.d.map ch
def text (x:Dn):List UInt8:=coef x++101::Lib.itoa x.e
def lim (x:Dn):Nat:=if 400<x.d.length then 6 else if x.e< -2000\/2000<x.e then 2 else 0
structure Wf (x:Dn):Prop where
 zero:x.d=[]->x.neg=false/\x.e=0
 head:x.d.head?≠some 0
 last:x.d.getLast?≠some 0
 lt:∀v∈x.d,v<10
theorem dw_head (d:List Nat):(d.dropWhile isZ).head?≠some 0:=by
 induction d with
 |nil=>simp
 |cons a d ih=>
  rw[List.dropWhile_cons];split
  .exact ih
  .rename_i h;intro e;simp at e;subst e;exact h rfl
theorem zoh {α:Type} {p:α->Bool}:∀{l:List α} {x:α},x∈l.takeWhile p->p x=true
 | [],x,h=>by simp at h
 |a::l,x,h=>by
  rw[List.takeWhile_cons]at h;split at h
  .rename_i ha;rcases List.mem_cons.1 h with h|h
   .rw[h];exact ha
   .exact zoh h
  .simp at h
theorem zue (d:List Nat):∀v∈d.dropWhile isZ,v∈d:=fun _ a=>(List.dropWhile_sublist isZ).subset a
theorem zxi (d:List Nat):∀v∈rz d,v∈d:=fun v a=>by
 unfold rz at a;rw[List.mem_reverse]at a;exact List.mem_reverse.1 (zue _ _ a)
theorem zvh (d:List Nat):(rz d).getLast?≠some 0:=by
 unfold rz;rw[List.getLast?_reverse];exact dw_head _
theorem zxj (d:List Nat):(rz d).length<=d.length:=by
 unfold rz;rw[List.length_reverse];exact Nat.le_trans (List.dropWhile_sublist isZ).length_le (by simp)
theorem zxk (d:List Nat):d=rz d++List.replicate (d.length-(rz d).length) 0:=by
 have h:=List.takeWhile_append_dropWhile (p:=isZ) (l:=d.reverse);have h2:d.reverse.takeWhile isZ=List.replicate (d.reverse.takeWhile isZ).length 0:=by
  rw[List.eq_replicate_iff];refine⟨rfl,fun b f=>?_⟩;have:=zoh f;simpa[isZ]using this
 have a:d=rz d++(d.reverse.takeWhile isZ).reverse:=by
  unfold rz;rw[<-List.reverse_append,h,List.reverse_reverse]
 have c:(d.reverse.takeWhile isZ).reverse=List.replicate (d.reverse.takeWhile isZ).length 0:=by
  grind
 rw[c]at a;have e:=congrArg List.length a;rw[List.length_append,List.length_replicate]at e;rw[show d.length-(rz d).length=(d.reverse.takeWhile isZ).length from by omega];exact a
theorem zyu (d:List Nat) (h0:d.head?≠some 0) (hn:d≠[]):rz d≠[]/\(rz d).head?=d.head?:=by
 have h:=zxk d;cases hr:rz d with
 |nil=>
  grind
 |cons a l=>
  grind
theorem zgl (neg:Bool) (d:List Nat) (e:Int) (h:∀v∈d,v<10):Wf (norm neg d e):=by
 unfold norm;split
 .exact⟨fun _=>⟨rfl,rfl⟩,by simp[zeroD],by simp[zeroD],fun v a=>by simp[zeroD]at a⟩
 .rename_i hn;have b:=zyu _ (dw_head d) hn;exact⟨fun e=>absurd e b.1,by rw[show Dn.d ⟨neg,rz (d.dropWhile isZ),_⟩=rz (d.dropWhile isZ)from rfl,b.2];exact dw_head d,zvh _,fun v a=>h v (zue _ _ (zxi _ _ a))⟩
theorem zoi (x:Dn) (h:Wf x) (hn:x.d≠[]):norm x.neg x.d x.e=x:=by
 obtain⟨neg,d,e⟩:=x;have c:d.dropWhile isZ=d:=by
  cases d with
  |nil=>rfl
  |cons a d=>
   rw[List.dropWhile_cons,if_neg];intro e;have:=h.head;simp[isZ]at e this;exact this e
 have f:rz d=d:=by
  unfold rz;have:d.reverse.dropWhile isZ=d.reverse:=by
   have b:=h.last;rw[show Dn.d ⟨neg,d,e⟩=d from rfl,<-List.head?_reverse]at b;cases hrv:d.reverse with
   |nil=>rfl
   |cons a l=>
    rw[hrv]at b;rw[List.dropWhile_cons,if_neg];intro e;simp[isZ]at e b;exact b e
  rw[this,List.reverse_reverse]
 show norm neg d e=_;unfold norm;rw[c,if_neg hn,f,Nat.sub_self];simp
theorem zoj (neg:Bool) (e:Int):norm neg [0] e=zeroD:=rfl
theorem zuf (v:Nat) (h:v<10):dig (ch v)=true:=zog v h
theorem zvi (v:Nat) (h:v<10):dv (ch v)=v:=zvg v h
theorem zgm (d:List Nat) (h:∀v∈d,v<10):vals (d.map ch)=d:=by
 unfold vals;rw[List.map_map]
 conv=>rhs;rw[<-List.map_id d]
 exact List.map_congr_left (fun v a=>zvi v (h v a))
theorem zkn (d:List Nat) (h:∀v∈d,v<10):(d.map ch).all dig=true:=by
 rw[List.all_eq_true];intro c a;obtain⟨v,b,rfl⟩:=List.mem_map.1 a;exact zuf v (h v b)
theorem zc7 (s:List UInt8) (h:s.all dig=true):∀v∈vals s,v<10:=by
 intro v b;obtain⟨c,a,rfl⟩:=List.mem_map.1 b;have:=(zbh c).1 (List.all_eq_true.1 h c a);unfold dv;omega
theorem zbo {c:UInt8} (h:dig c=true) (k:Nat) (hk:k<48\/57<k) (h2:k<256):c≠UInt8.ofNat k:=by
 intro e;have:=(zbh c).1 h;rw[e,UInt8.toNat_ofNat']at this;omega
theorem zgn {d:List Nat} (hn:d≠[]) (h:∀v∈d,v<10) (hz:d.head?≠some 0):(d.map ch).head?≠some 48/\(d.map ch).head?≠some 45/\(d.map ch)≠[]:=by
 cases d with
 |nil=>exact absurd rfl hn
 |cons a d=>
  have b:=h a (.head _);have c:a≠0:=fun e=>hz (by rw[e];rfl)
  refine⟨?_,?_,by simp⟩
  .intro e;simp only[List.map_cons,List.head?_cons,Option.some.injEq]at e;have:=congrArg dv e;rw[zvi a b]at this;exact c this
  .intro e;simp only[List.map_cons,List.head?_cons,Option.some.injEq]at e;exact zbo (zuf a b) 45 (.inl (by omega)) (by omega) e
theorem zgo {x:Dn} (hn:x.d≠[]):coef x=(if x.neg=true then[45]else[])++x.d.map ch:=by unfold coef;rw[if_neg hn]
theorem zhw {x:Dn} (h:Wf x) (hn:x.d≠[]):intS (coef x)=x.d.map ch:=by
 obtain⟨h1,h2,h3⟩:=zgn hn h.lt h.head;rw[zgo hn];unfold intS;cases x.neg with
 |true=>
  simp_all
 |false=>
  grind
theorem zok {x:Dn} (h:Wf x) (hl:x.d.length<=400):intB (coef x)=true:=by
 by_cases hn:x.d=[]
 .unfold coef;rw[if_pos hn];decide
 .obtain⟨a,h2,h3⟩:=zgn hn h.lt h.head;unfold intB;rw[zhw h hn,if_neg,zkn _ h.lt];rintro(h4|h4|h4)
  .grind
  .grind
  .exact a h4.1
theorem zxl (x:Dn) (h:Wf x):∀c∈coef x,c≠101/\(dig c=true\/c=45):=by
 have a:∀c,dig c=true->c≠101/\(dig c=true\/c=45):=fun c hc=>⟨zbo hc 101 (.inr (by omega)) (by omega),.inl hc⟩
 intro c hc;unfold coef at hc;split at hc
 .simp at hc;subst hc;exact a _ (by decide)
 .rw[List.mem_append]at hc;rcases hc with hc|hc
  .grind
  .exact a _ (List.all_eq_true.1 (zkn _ h.lt) c hc)
theorem zfy {p:UInt8->Bool} (a:List UInt8) (c:UInt8) (r:List UInt8) (h:∀x∈a,p x=true) (hc:p c=false):(a++c::r).takeWhile p=a/\(a++c::r).dropWhile p=c::r:=by
 simp_all
def readP (s:List UInt8):Option Dn:=
 match s.dropWhile (fun c=>c != 101)with
 | []=>none
 |_::r=>
  if intB (s.takeWhile (fun c=>c != 101))=false\/5<r.length then none
  else match Lib.atoi r with
   |none=>none
   |some e=>
    if lim (norm ((s.takeWhile (fun c=>c != 101)).head? ==some 45) (vals (intS (s.takeWhile (fun c=>c != 101)))) e)=0/\text (norm ((s.takeWhile (fun c=>c != 101)).head? ==some 45) (vals (intS (s.takeWhile (fun c=>c != 101)))) e)=s
    then some (norm ((s.takeWhile (fun c=>c != 101)).head? ==some 45) (vals (intS (s.takeWhile (fun c=>c != 101)))) e)else none
theorem zej {x:Dn} (h:lim x=0):x.d.length<=400/\-2000<=x.e/\x.e<=2000:=by
 unfold lim at h;split at h
 .cases h
 .split at h
  .cases h
  .omega
theorem zhx {x:Dn} (h:Wf x):norm ((coef x).head? ==some 45) (vals (intS (coef x))) x.e=x:=by
 by_cases hn:x.d=[]
 .obtain⟨b,a⟩:=h.zero hn;obtain⟨neg,d,e⟩:=x;simp only at hn b a;subst hn;subst b;subst a;unfold coef;rw[if_pos rfl];exact zoj _ _
 .obtain⟨b,a,h3⟩:=zgn hn h.lt h.head;rw[zhw h hn,zgm _ h.lt];have:((coef x).head? ==some 45)=x.neg:=by
   rw[zgo hn];cases x.neg with
   |true=>rfl
   |false=>rw[if_neg (by simp),List.nil_append];simpa using a
  rw[this];exact zoi x h hn
theorem zl5 {x:Dn} (h:Wf x) (hl:lim x=0):readP (text x)=some x:=by
 obtain⟨a,l2,l3⟩:=zej hl;obtain⟨d,b⟩:=zfy (p:=fun c=>c != 101) (coef x) 101 (Lib.itoa x.e) (fun c f=>by simpa using(zxl x h c f).1) (by decide);have hlen:=zc6 x.e 3 (by omega);unfold readP;rw[show(text x).dropWhile (fun c=>c != 101)=101::Lib.itoa x.e from b];simp only;rw[show(text x).takeWhile (fun c=>c != 101)=coef x from d,zok h a,if_neg (by rintro(h1|h1);cases h1;omega),zhv];simp only;rw[zhx h,if_pos ⟨hl,rfl⟩]
theorem zdl {a:List UInt8} (h:intB a=true):(intS a).all dig=true:=by
 unfold intB at h;split at h
 .cases h
 .exact h
theorem zl6 {s:List UInt8} {x:Dn} (h:readP s=some x):Wf x/\lim x=0/\text x=s:=by
 unfold readP at h;split at h
 .cases h
 .split at h
  .cases h
  .rename_i hb;split at h
   .cases h
   .split at h
    .rename_i hc;injection h with h
     subst h;refine⟨zgl _ _ _ (zc7 _ (zdl ?_)),hc⟩;cases hi:intB (s.takeWhile (fun c=>c != 101))with
     |true=>rfl
     |false=>exact absurd (.inl hi) hb
    .cases h
def satv (sat:Nat) (l:List UInt8):Nat:=l.foldl (fun n c=>min (10*n+dv c) sat) 0
theorem zol (sat:Nat) (l:List UInt8):satv sat l=min (val l) sat:=by
 refine zkm (P:=fun l=>satv sat l=min (val l) sat) (by simp[satv,val]) ?_ l;intro l c a;unfold satv at a ⊢;rw[List.foldl_append,a,zbl];simp only[List.foldl_cons,List.foldl_nil];omega
def expT (s4:List UInt8):List UInt8:=if s4.head?=some 45\/s4.head?=some 43 then s4.tail else s4
def expV (sat:Nat) (s4:List UInt8):Int:=if s4.head?=some 45 then -(satv sat (expT s4):Int)else(satv sat (expT s4):Int)
def expS (sat:Nat) (neg:Bool) (d:List Nat) (e:Int) (s3:List UInt8):Option Dn:=
 if s3=[]then some (norm neg d e)
 else if s3.head?=some 101\/s3.head?=some 69 then
  if expT s3.tail=[]\/(expT s3.tail).all dig=false then none else some (norm neg d (e+expV sat s3.tail))
 else none
def numT (sat:Nat) (neg:Bool) (s1:List UInt8):Option Dn:=
 if s1.takeWhile dig=[]\/((s1.takeWhile dig).head?=some 48/\1<(s1.takeWhile dig).length)then none
 else if(s1.dropWhile dig).head?=some 46 then
  if(s1.dropWhile dig).tail.takeWhile dig=[]then none
  else expS sat neg (vals (s1.takeWhile dig++(s1.dropWhile dig).tail.takeWhile dig)) (-(((s1.dropWhile dig).tail.takeWhile dig).length:Int)) ((s1.dropWhile dig).tail.dropWhile dig)
 else expS sat neg (vals (s1.takeWhile dig)) 0 (s1.dropWhile dig)
def numS (sat:Nat) (s:List UInt8):Option Dn:=if s.head?=some 45 then numT sat true s.tail else numT sat false s
def readR (s:List UInt8):Option Dn:=
 match numS 1000000 s with
 |none=>none
 |some x=>if lim x=0/\text x=s then some x else none
theorem zom {sat:Nat} {neg:Bool} {d:List Nat} {e:Int} {s:List UInt8} {x:Dn} (hd:∀v∈d,v<10) (h:expS sat neg d e s=some x):Wf x:=by
 unfold expS at h;split at h
 .injection h with h;subst h;exact zgl _ _ _ hd
 .split at h
  .split at h
   .cases h
   .injection h with h;subst h;exact zgl _ _ _ hd
  .cases h
theorem zd9 (s:List UInt8):(s.takeWhile dig).all dig=true:=by
 simp_all
theorem zon {sat:Nat} {neg:Bool} {s:List UInt8} {x:Dn} (h:numT sat neg s=some x):Wf x:=by
 unfold numT at h;split at h
 .cases h
 .split at h
  .split at h
   .cases h
   .refine zom (zc7 _ ?_) h;rw[List.all_append,zd9,zd9];rfl
  .exact zom (zc7 _ (zd9 _)) h
theorem zoo {sat:Nat} {s:List UInt8} {x:Dn} (h:numS sat s=some x):Wf x:=by
 unfold numS at h;split at h
 .exact zon h
 .exact zon h
theorem zl7 {s:List UInt8} {x:Dn} (h:readR s=some x):Wf x/\lim x=0/\text x=s:=by
 unfold readR at h;split at h
 .cases h
 .rename_i y hy;split at h
  .rename_i hc;injection h with h
   subst h;exact⟨zoo hy,hc⟩
  .cases h
theorem zop (e:Int) (sat:Nat) (hs:e.natAbs<=sat) (neg:Bool) (d:List Nat):expS sat neg d 0 (101::Lib.itoa e)=some (norm neg d e):=by
 unfold expS;rw[if_neg (by simp),if_pos (.inl rfl)];simp only[List.tail_cons];unfold Lib.itoa expV expT;by_cases h:e<0
 .rw[if_pos h];simp only[List.head?_cons,List.tail_cons,true_or,if_true];rw[if_neg,zol,zak]
  .congr 2;omega
  .rintro(h1|h1)
   .exact zaz _ h1
   .rw[zaj]at h1;cases h1
 .rw[if_neg h];have f:=zaz e.toNat;have a:=zaj e.toNat;have b:=zak e.toNat;have g:(Lib.decDigits e.toNat).head?≠some 45/\(Lib.decDigits e.toNat).head?≠some 43:=by
   cases hd:Lib.decDigits e.toNat with
   |nil=>exact absurd hd f
   |cons c l=>
    rw[hd,List.all_cons,Bool.and_eq_true]at a;exact⟨fun e=>zbo a.1 45 (.inl (by omega)) (by omega) (by simpa using e),fun e=>zbo a.1 43 (.inl (by omega)) (by omega) (by simpa using e)⟩
  simp only[g.1,g.2,or_self,if_false];rw[if_neg,zol,b]
  .congr 2;omega
  .grind
theorem zoq {x:Dn} (h:Wf x) (hl:lim x=0) (sat:Nat) (hs:2000<=sat):numS sat (text x)=some x:=by
 obtain⟨l1,l2,l3⟩:=zej hl;have b:∀(neg:Bool) (i:List UInt8),i≠[]->i.all dig=true->(i.head?≠some 48\/i.length=1)->norm neg (vals i) x.e=x->numT sat neg (i++101::Lib.itoa x.e)=some x:=by
  intro neg i j o hh f;obtain⟨l,k⟩:=zfy (p:=dig) i 101 (Lib.itoa x.e) (List.all_eq_true.1 o) (by decide);unfold numT;rw[l,k,if_neg,if_neg (by simp),zop _ _ (by omega),f];rintro(h1|h1)
  .exact j h1
  .grind
 have f:=zhx h;by_cases hn:x.d=[]
 .have n:coef x=[48]:=by unfold coef;rw[if_pos hn]
  unfold numS text;rw[n]at f ⊢;rw[if_neg (by simp)];exact b false [48] (by simp) (by decide) (.inr rfl) f
 .obtain⟨h1,m,g⟩:=zgn hn h.lt h.head;have a:=zoi x h hn;rw[<-zgm x.d h.lt]at a;unfold numS text;rw[zgo hn];cases hneg:x.neg with
  |true=>
   rw[if_pos rfl,List.cons_append,List.nil_append,if_pos (by rfl)];rw[hneg]at a;exact b true _ g (zkn _ h.lt) (.inl h1) (by rw[zgm _ h.lt]at a ⊢;exact a)
  |false=>
   rw[hneg]at a;rw[if_neg (c:=false=true) (by simp),List.nil_append,zgk _ _ g,if_neg m];exact b false _ g (zkn _ h.lt) (.inl h1) (by rw[zgm _ h.lt]at a ⊢;exact a)
theorem zl8 {x:Dn} (h:Wf x) (hl:lim x=0):readR (text x)=some x:=by
 unfold readR;rw[zoq h hl _ (by omega)];show(if lim x=0/\text x=text x then some x else none)=some x;rw[if_pos ⟨hl,rfl⟩]
theorem zvj (s:List UInt8):readP s=readR s:=by
 cases hp:readP s with
 |some x=>
  obtain⟨a,c,b⟩:=zl6 hp;rw[<-b,zl8 a c]
 |none=>
  cases hr:readR s with
  |none=>rfl
  |some x=>
   obtain⟨a,c,b⟩:=zl7 hr;rw[<-b,zl5 a c]at hp;cases hp
def fitsB (m:Nat) (e:Int):Bool:=m%2==1 && decide (Lib.bitLen m<=53) && decide (-1074<=e) && decide (e<=1023) && decide (e+Lib.bitLen m<=1024)
def fT (s:List UInt8):List UInt8:=if s.head?=some 45 then s.tail else s
def fA (t:List UInt8):List UInt8:=t.takeWhile (fun c=>c != 112)
def fltN (t:List UInt8):Bool:=
 match t.dropWhile (fun c=>c != 112)with
 | []=>false
 |_::b=>match Lib.parseUintB 64 (fA t)with
  | .ok m=>match Lib.atoiAll b with
   | .ok e=>fitsB m e && decide (Lib.decDigits m++112::Lib.itoa e=t)
   |_=>false
  |_=>false
def fltP (s:List UInt8):Bool:=
 if s=[110,97,110]then true else if fT s=[105,110,102]then true else if fT s=[48,112,48]then true else fltN (fT s)
def numb (s:List UInt8):Option Int:=if intB s=true/\s.length<=18 then some (if s.head?=some 45 then -(val (intS s):Int)else(val (intS s):Int))else none
def mokB (m e:Int):Bool:=!(decide (m<0) || (m==0 && e != 0) || (m != 0 && (m%2==0 || decide (53<Lib.bitLen m.toNat) || decide (e< -1074) || decide (1023<e) || decide (1024<e+Lib.bitLen m.toNat))))
def fltR (s:List UInt8):Bool:=
 if fT s=[105,110,102]then true else if s=[110,97,110]then true
 else match(fT s).dropWhile (fun c=>c != 112)with
  | []=>false
  |_::b=>match numb (fA (fT s))with
   |some m=>match numb b with
    |some e=>mokB m e
    |none=>false
   |none=>false
theorem zor {m:Nat} (h:m<2 ^ 64):m<2 ^ Lib.bitLen m:=by
 rcases Nat.eq_zero_or_pos m with h0|h0
 .grind
 .exact(Lib.bitLenAux_bounds 64 m h (by omega)).2.2
theorem zhy {m:Nat} (h:m<2 ^ 64) (hb:Lib.bitLen m<=53):m<2 ^ 53:=
 Nat.lt_of_lt_of_le (zor h) (Nat.pow_le_pow_right (by omega) hb)
theorem zhz {s:List UInt8} {n:Int} (h:numb s=some n):s=Lib.itoa n/\n.natAbs<10 ^ 18:=by
 unfold numb at h;split at h
 .rename_i hc;obtain⟨m,hl⟩:=hc;have c:=zdl m;have d:=m;unfold intB at d;split at d
  .cases d
  .rename_i hnn;have j:intS s≠[]:=fun e=>hnn (.inl (by rw[e];rfl))
   have hlen:(intS s).length<=s.length:=by unfold intS;split<;>simp
   have p:=ze1 _ c;have hv2:val (intS s)<10 ^ 18:=Nat.lt_of_lt_of_le p (Nat.pow_le_pow_right (by omega) (by omega));injection h with h
   by_cases h45:s.head?=some 45
   .rw[if_pos h45]at h;have g:s.length>1:=by
     rcases Nat.lt_or_ge 1 s.length with h1|h1
     .exact h1
     .exfalso;have o:s=[45]:=by
       cases s with
       |nil=>cases h45
       |cons a l=>cases l with
        |nil=>simp at h45;rw[h45]
        |cons b l=>simp at h1
      rw[o]at c;exact absurd c (by decide)
    have k:intS s=s.tail:=by unfold intS;rw[if_pos ⟨g,h45⟩]
    have i:(intS s).head?≠some 48:=fun e=>hnn (.inr (.inr ⟨e,g⟩))
    have f:=zht _ j c (.inl i);have hpos:0<val (intS s):=by
     rcases Nat.eq_zero_or_pos (val (intS s))with h0|h0
     .rw[h0,Lib.decDigits_one (by omega)]at f;exact absurd (by rw[<-f];rfl) i
     .exact h0
    refine⟨?_,by omega⟩;unfold Lib.itoa;rw[if_pos (by omega),show n.natAbs=val (intS s)from by omega,f,k];cases s with
    |nil=>cases h45
    |cons a l=>simp at h45;rw[h45];rfl
   .rw[if_neg h45]at h;have k:intS s=s:=by unfold intS;rw[if_neg (fun e=>h45 e.2)]
    refine⟨?_,by omega⟩;unfold Lib.itoa;rw[if_neg (by omega),show n.toNat=val (intS s)from by omega,zht _ j c,k];rcases Nat.lt_or_ge 1 s.length with h1|h1
    .grind
    .omega
 .cases h
theorem zh0 (n:Int) (k:Nat) (hk:k<=16) (h:n.natAbs<10 ^ (k+1)):intS (Lib.itoa n)=Lib.decDigits n.natAbs/\intB (Lib.itoa n)=true/\(Lib.itoa n).length<=18/\(n<0↔(Lib.itoa n).head?=some 45):=by
 have f:=zc6 n k h;have i:=zaz n.natAbs;have a:=zaj n.natAbs;have hp:=List.length_pos_iff.2 i;have b:(Lib.decDigits n.natAbs).head?≠some 45:=by
  cases hd:Lib.decDigits n.natAbs with
  |nil=>simp
  |cons c l=>
   rw[hd,List.all_cons,Bool.and_eq_true]at a;exact fun e=>zbo a.1 45 (.inl (by omega)) (by omega) (by simpa using e)
 by_cases hn:n<0
 .have d:Lib.itoa n=45::Lib.decDigits n.natAbs:=by unfold Lib.itoa;rw[if_pos hn]
  have g:intS (Lib.itoa n)=Lib.decDigits n.natAbs:=by
   rw[d];unfold intS;rw[if_pos ⟨by simp;omega,rfl⟩];rfl
  refine⟨g,?_,by omega,⟨fun _=>by rw[d];rfl,fun _=>hn⟩⟩;unfold intB;rw[g,if_neg,a];rintro(h1|h1|h1)
  .omega
  .grind
  .exact zc2 _ (by omega) h1.1
 .have d:Lib.itoa n=Lib.decDigits n.natAbs:=by unfold Lib.itoa;rw[if_neg hn,show n.toNat=n.natAbs from by omega]
  have g:intS (Lib.itoa n)=Lib.decDigits n.natAbs:=by rw[d];unfold intS;rw[if_neg (fun e=>b e.2)]
  refine⟨g,?_,by omega,⟨fun h=>absurd h hn,fun h=>by rw[d]at h;exact absurd h b⟩⟩;unfold intB;rw[g,if_neg,a];rintro(h1|h1|h1)
  .omega
  .rw[d]at f;omega
  .by_cases h0:n.natAbs=0
   .rw[d,h0,Lib.decDigits_one (by omega)]at h1;simp at h1
   .exact zc2 _ h0 h1.1
theorem zos (n:Int) (h:n.natAbs<10 ^ 17):numb (Lib.itoa n)=some n:=by
 obtain⟨a,c,b,h4⟩:=zh0 n 16 (by omega) h;unfold numb;rw[if_pos ⟨c,b⟩,a,zak];by_cases hn:n<0
 .grind
 .grind
theorem zl9 (M:Nat) (hM:M=18446744073709551615) (l:List UInt8) (acc:Nat) (h:l.all dig=true) (hb:acc*10 ^ l.length+val l<18446744073709551616):Lib.parseUintM M acc l=.ok (acc*10 ^ l.length+val l):=by
 induction l generalizing acc with
 |nil=>simp[Lib.parseUintM,val]
 |cons c l ih=>
  rw[List.all_cons,Bool.and_eq_true,zbh]at h;rw[zei,List.length_cons,Nat.pow_succ]at hb ⊢;have b:acc*(10 ^ l.length*10)+(dv c*10 ^ l.length+val l)=(acc*10+dv c)*10 ^ l.length+val l:=by
   grind
  rw[b]at hb ⊢;have a:1<=10 ^ l.length:=Nat.one_le_pow _ _ (by decide);have h2:acc*10+dv c<=(acc*10+dv c)*10 ^ l.length:=Nat.le_mul_of_pos_right _ a;unfold Lib.parseUintM;rw[if_pos h.1,if_neg (by omega),show c.toNat-48=dv c from rfl,if_neg (by omega),ih _ h.2 hb]
theorem zot (m:Nat) (h:m<2 ^ 64):Lib.parseUintB 64 (Lib.decDigits m)=.ok m:=by
 unfold Lib.parseUintB;rw[if_neg (zaz m),zl9 _ (by decide) _ _ (zaj m) (by rw[zak];omega),zak];simp
theorem zh1 (n:Int) (h:n.natAbs<10 ^ 17):Lib.atoiAll (Lib.itoa n)=.ok n:=by
 rw[Lib.atoiAll_short _ (zh0 n 16 (by omega) h).2.2.1,zhv];rfl
theorem zko (m:Nat):∀c∈Lib.decDigits m,(c != 112)=true:=by
 intro c a;have:=List.all_eq_true.1 (zaj m) c a;simpa using zbo this 112 (.inr (by omega)) (by omega)
theorem zgp (m:Nat):Lib.itoa (m:Int)=Lib.decDigits m:=by unfold Lib.itoa;rw[if_neg (by omega)];rfl
theorem zou (l:List UInt8) (acc u:Nat) (ha:acc<2 ^ 64) (h:Lib.parseUintM (2 ^ 64-1) acc l=.ok u):u<2 ^ 64:=by
 induction l generalizing acc with
 |nil=>simp only[Lib.parseUintM]at h;injection h with h;omega
 |cons c l ih=>
  unfold Lib.parseUintM at h;split at h
  .grind
  .cases h
theorem zsi {l:List UInt8} {u:Nat} (h:Lib.parseUintB 64 l=.ok u):u<2 ^ 64:=by
 unfold Lib.parseUintB at h;split at h
 .cases h
 .exact zou _ _ _ (by omega) h
theorem zkp (t:List UInt8):fltN t=true↔∃(m:Nat) (e:Int),t=Lib.decDigits m++112::Lib.itoa e/\m<2 ^ 64/\fitsB m e=true:=by
 constructor
 .intro h;unfold fltN at h;split at h
  .cases h
  .split at h
   .rename_i m hm;split at h
    .rename_i e he;rw[Bool.and_eq_true]at h;exact⟨m,e,(of_decide_eq_true h.2).symm,zsi hm,h.1⟩
    .cases h
   .cases h
 .rintro⟨m,e,rfl,hm,a⟩;obtain⟨d,b⟩:=zfy (p:=fun c=>c != 112) (Lib.decDigits m) 112 (Lib.itoa e) (zko m) (by decide);have he:e.natAbs<10 ^ 17:=by
   unfold fitsB at a;simp only[Bool.and_eq_true,decide_eq_true_iff]at a;omega
  unfold fltN fA;rw[d,b];simp only;rw[zot m hm];simp only;rw[zh1 e he];simp only;rw[a,Bool.true_and];simp
theorem zvk {m e:Int} (h:mokB m e=true) (h0:m≠0):0<m/\fitsB m.toNat e=true:=by
 unfold mokB at h;unfold fitsB;simp only[Bool.not_eq_true',Bool.or_eq_false_iff,Bool.and_eq_false_iff,decide_eq_false_iff_not,Bool.and_eq_true,decide_eq_true_iff,bne_eq_false_iff_eq,beq_eq_false_iff_ne,beq_iff_eq]at h ⊢;obtain⟨⟨h1,h2⟩,h3⟩:=h;rcases h3 with h3|h3
 .exact absurd h3 h0
 .omega
theorem zxm {m:Nat} {e:Int} (hf:fitsB m e=true):mokB (m:Int) e=true:=by
 unfold fitsB at hf;unfold mokB;simp only[Bool.not_eq_true',Bool.or_eq_false_iff,Bool.and_eq_false_iff,decide_eq_false_iff_not,Bool.and_eq_true,decide_eq_true_iff,bne_eq_false_iff_eq,beq_eq_false_iff_ne,beq_iff_eq,Int.toNat_natCast]at hf ⊢;obtain⟨⟨⟨⟨a,b⟩,c⟩,d⟩,f⟩:=hf;refine⟨⟨by omega,.inl (by omega)⟩,.inr ⟨⟨⟨⟨by omega,by omega⟩,by omega⟩,by omega⟩,by omega⟩⟩
theorem zxn (s:List UInt8):fltP s=fltR s:=by
 unfold fltP fltR;by_cases h1:s=[110,97,110]
 .subst h1;rfl
 .rw[if_neg h1,if_neg h1];by_cases h2:fT s=[105,110,102]
  .rw[if_pos h2,if_pos h2]
  .rw[if_neg h2,if_neg h2];generalize fT s=t;rw[Bool.eq_iff_iff];have h64:(10:Nat) ^ 17<2 ^ 64:=by decide
   have h53:(2:Nat) ^ 53<10 ^ 17:=by decide
   constructor
   .intro h;split at h
    .rename_i ht;subst ht;rfl
    .obtain⟨m,e,rfl,l,n⟩:=(zkp t).1 h;obtain⟨r,o⟩:=zfy (p:=fun c=>c != 112) (Lib.decDigits m) 112 (Lib.itoa e) (zko m) (by decide);have g:=n;unfold fitsB at g;simp only[Bool.and_eq_true,decide_eq_true_iff]at g;obtain⟨⟨⟨⟨a,b⟩,c⟩,d⟩,f⟩:=g;have:=zhy l b;unfold fA;rw[r,o];simp only;rw[<-zgp,zos (m:Int) (by omega)];simp only;rw[zos e (by omega)];exact zxm n
   .intro h;split at h
    .cases h
    .rename_i c b hd;split at h
     .rename_i m l;split at h
      .rename_i e he;obtain⟨q,hma⟩:=zhz l;obtain⟨w,heb⟩:=zhz he;have v:c=112:=by
        have:=List.head?_dropWhile_not (fun c:UInt8=>c != 112) t;rw[hd]at this;simpa using this
       have ht:t=Lib.itoa m++112::Lib.itoa e:=by
        rw[<-q,<-w,<-v,<-hd];exact(List.takeWhile_append_dropWhile).symm
       by_cases h0:m=0
       .subst h0;have j:e=0:=by
         unfold mokB at h;simp at h;exact h
        subst j;have k:Lib.itoa 0=[48]:=by unfold Lib.itoa;rw[if_neg (by omega)];exact Lib.decDigits_one (i:=0) (by omega)
        rw[if_pos (by rw[ht,k];rfl)]
       .obtain⟨p1,u⟩:=zvk h h0;split
        .rfl
        .rw[zkp];refine⟨m.toNat,e,?_,by omega,u⟩;rw[ht,<-zgp,show((m.toNat:Nat):Int)=m from by omega]
      .cases h
     .cases h
end Gr
namespace Flt
open Ieee
theorem b52:Ieee.double.binade=4503599627370496:=by decide
theorem sgnW:Ieee.double.signWeight=9223372036854775808:=by decide
theorem infR:Ieee.double.infRung=9218868437227405312:=by decide
theorem leastP:Ieee.double.leastPlace=-1074:=by decide
theorem fracB:Ieee.double.fractionBits=52:=rfl
theorem cut0 (neg:Bool) (n:Nat):Toward.even.cut neg n 0=n:=by
 have h:(1:Nat) <<<min 0 (n.log2+2)=1:=by rw[Nat.zero_min];rfl
 unfold Toward.cut;rw[h];simp[Nat.mod_one]
theorem zo8 (neg:Bool) (K d:Nat) (hK:0<K):Toward.even.cut neg (K*2 ^ d) d=K:=by
 have a:0<2 ^ d:=Nat.two_pow_pos d;have hl:d<=(K*2 ^ d).log2:=(Nat.le_log2 (by have:=Nat.mul_pos hK a;omega)).2 (Nat.le_mul_of_pos_left _ hK);have h:(1:Nat) <<<min d ((K*2 ^ d).log2+2)=2 ^ d:=by rw[Nat.min_eq_left (by omega),Nat.shiftLeft_eq,Nat.one_mul]
 unfold Toward.cut;rw[h];simp[Nat.mul_div_cancel _ a,Nat.mul_mod_left]
theorem zvq (M:Nat) (p last:Int) (hM:M≠0) (hlast:max (p+(M.log2:Int)-52) (-1074)=last) (h:last<=p):Ieee.double.nearest false M p=min ((last+1074).toNat*4503599627370496+M*2 ^ (p-last).toNat) 9218868437227405312:=by
 unfold Format.nearest;rw[if_neg hM,leastP,b52,infR,fracB];simp only[Format.word,Bool.false_eq_true,if_false];rw[show((52:Nat):Int)=52 from rfl,hlast,show(last-p).toNat=0 from by omega,cut0,Nat.shiftLeft_eq,show last- -1074=last+1074 from by omega]
theorem zih (M K:Nat) (p last:Int) (hM:M≠0) (hlast:max (p+(M.log2:Int)-52) (-1074)=last) (h:p<=last) (hK:M=K*2 ^ (last-p).toNat):Ieee.double.nearest false M p=min ((last+1074).toNat*4503599627370496+K) 9218868437227405312:=by
 unfold Format.nearest;rw[if_neg hM,leastP,b52,infR,fracB];simp only[Format.word,Bool.false_eq_true,if_false];rw[show((52:Nat):Int)=52 from rfl,hlast,show(p-last).toNat=0 from by omega,show last- -1074=last+1074 from by omega,Nat.shiftLeft_eq,Nat.pow_zero,Nat.mul_one,hK,zo8];rcases Nat.eq_zero_or_pos K with h0|h0
 .grind
 .exact h0
theorem zjp (m L:Nat) (h1:2 ^ L<=m) (h2:m<2 ^ (L+1)):m.log2=L:=by
 have c:m≠0:=by have:=Nat.two_pow_pos L;omega
 have a:=(Nat.le_log2 c).2 h1;have b:=(Nat.log2_lt c).2 h2;omega
def lastP (L:Nat) (e:Int):Int:=max (e+L-52) (-1074)
def sig (m L:Nat) (e:Int):Nat:=m*2 ^ (e-lastP L e).toNat
def fw (m L:Nat) (e:Int):Nat:=(lastP L e+1074).toNat*4503599627370496+sig m L e
structure Fits (m L:Nat) (e:Int):Prop where
 odd:m%2=1
 lo:2 ^ L<=m
 hi:m<2 ^ (L+1)
 len:L+1<=53
 e0:-1074<=e
 e1:e+L+1<=1024
section
variable {m L:Nat} {e:Int}
theorem Fits.last_le (h:Fits m L e):lastP L e<=e:=by have:=h.len;have:=h.e0;unfold lastP;omega
theorem zfa (a:Nat) (h:a<=53):2 ^ a<=9007199254740992:=Nat.pow_le_pow_right (n:=2) (by omega) h
theorem Fits.sig_bd (h:Fits m L e):0<sig m L e/\sig m L e<9007199254740992/\(4503599627370496<=sig m L e\/lastP L e=-1074)/\lastP L e<=971/\-1074<=lastP L e:=by
 have h1:=h.len;have h2:=h.e0;have h3:=h.e1;have b:=h.lo;have c:=h.hi;have h0:=h.last_le;have hd:L+(e-lastP L e).toNat<=52:=by unfold lastP;omega
 have a:0<m:=by have:=Nat.two_pow_pos L;omega
 refine⟨Nat.mul_pos a (Nat.two_pow_pos _),?_,?_,by unfold lastP;omega,by unfold lastP;omega⟩
 .have:sig m L e<2 ^ (L+1)*2 ^ (e-lastP L e).toNat:=Nat.mul_lt_mul_of_pos_right c (Nat.two_pow_pos _);rw[<-Nat.pow_add]at this;exact Nat.lt_of_lt_of_le this (zfa _ (by omega))
 .by_cases hc:e+L-52< -1074
  .right;unfold lastP;omega
  .left;have d:L+(e-lastP L e).toNat=52:=by unfold lastP;omega
   have:2 ^ L*2 ^ (e-lastP L e).toNat<=sig m L e:=Nat.mul_le_mul_right _ b;rw[<-Nat.pow_add,d]at this;exact this
theorem Fits.fw_lt (h:Fits m L e):0<fw m L e/\fw m L e<9218868437227405312:=by
 obtain⟨a,b,c,d,f⟩:=h.sig_bd;unfold fw;omega
theorem Fits.read (h:Fits m L e):Ieee.double.read (fw m L e)=.number false (sig m L e) (lastP L e):=by
 obtain⟨a,b,c,d,f⟩:=h.sig_bd;obtain⟨n,j⟩:=h.fw_lt;obtain⟨k,g⟩:∃k:Nat,lastP L e=-1074+k:=⟨(lastP L e+1074).toNat,by omega⟩
 have i:fw m L e=k*4503599627370496+sig m L e:=by unfold fw;rw[g,show(-1074+(k:Int)+1074).toNat=k from by omega]
 unfold Format.read;rw[sgnW,b52,infR,leastP];have o:fw m L e /9223372036854775808=0:=Nat.div_eq_of_lt (by omega);have l:fw m L e%9223372036854775808=fw m L e:=Nat.mod_eq_of_lt (by omega);rw[o,l];simp only[Nat.zero_mod];rw[g,i];rw[i]at n j;by_cases hn:k*4503599627370496+sig m L e<4503599627370496
 .grind
 .grind
theorem Fits.ofNat (h:Fits m L e):floatOfInt .f64 (m:Int)=(L+1022)*4503599627370496+m*2 ^ (52-L):=by
 have h1:=h.len;have f:=h.lo;have a:=h.hi;have d:m≠0:=by have:=Nat.two_pow_pos L;omega
 have b:=zjp m L f a;unfold floatOfInt FloatKind.nearest FloatKind.encode FloatKind.format;simp only[Format.write];rw[show decide ((m:Int)<0)=false from by simp,Int.natAbs_natCast,zvq m 0 ((L:Int)-52) d (by rw[b];omega) (by omega)];have g:((L:Int)-52+1074).toNat=L+1022:=by omega
 have c:(0-((L:Int)-52)).toNat=52-L:=by omega
 rw[g,c];have:m*2 ^ (52-L)<9007199254740992:=by
  have:m*2 ^ (52-L)<2 ^ (L+1)*2 ^ (52-L):=Nat.mul_lt_mul_of_pos_right a (Nat.two_pow_pos _);rw[<-Nat.pow_add,show L+1+(52-L)=53 from by omega]at this;exact this
 omega
theorem Fits.full (h:Fits m L e):4503599627370496<=m*2 ^ (52-L)/\m*2 ^ (52-L)<9007199254740992:=by
 have h1:=h.len;have b:=h.lo;have a:=h.hi;constructor
 .have:2 ^ L*2 ^ (52-L)<=m*2 ^ (52-L):=Nat.mul_le_mul_right _ b;rw[<-Nat.pow_add,show L+(52-L)=52 from by omega]at this;exact this
 .have:m*2 ^ (52-L)<2 ^ (L+1)*2 ^ (52-L):=Nat.mul_lt_mul_of_pos_right a (Nat.two_pow_pos _);rw[<-Nat.pow_add,show L+1+(52-L)=53 from by omega]at this;exact this
theorem zdm (k s:Nat) (hk:1<=k) (hk2:k<=2046) (hs:4503599627370496<=s) (hs2:s<9007199254740992):Ieee.double.read (k*4503599627370496+(s-4503599627370496))=.number false s ((k:Int)-1075):=by
 unfold Format.read;rw[sgnW,b52,infR,leastP];have d:(k*4503599627370496+(s-4503599627370496)) /9223372036854775808=0:=Nat.div_eq_of_lt (by omega);have a:(k*4503599627370496+(s-4503599627370496))%9223372036854775808=k*4503599627370496+(s-4503599627370496):=Nat.mod_eq_of_lt (by omega);have b:(k*4503599627370496+(s-4503599627370496))%4503599627370496=s-4503599627370496:=by omega
 have c:(k*4503599627370496+(s-4503599627370496)) /4503599627370496=k:=by omega
 simp only[d,a,b,c,Nat.zero_mod];rw[if_neg (by omega),if_pos (by omega),show 4503599627370496+(s-4503599627370496)=s from by omega,show -1074+((k-1:Nat):Int)=(k:Int)-1075 from by omega];rfl
theorem Fits.mul_one (h:Fits m L e) (hn:-1022<=e+L):Ieee.double.mul 4607182418800017408 ((e+L+1023).toNat*4503599627370496+(m*2 ^ (52-L)-4503599627370496))=some (fw m L e):=by
 obtain⟨i,g⟩:=h.full;have h1:=h.len;have h2:=h.e0;have h3:=h.e1;obtain⟨g0,d⟩:=h.fw_lt;have c:=zdm 1023 4503599627370496 (by omega) (by omega) (by omega) (by omega);rw[show 1023*4503599627370496+(4503599627370496-4503599627370496)=4607182418800017408 from rfl]at c;have j:=zdm (e+L+1023).toNat (m*2 ^ (52-L)) (by omega) (by omega) i g;unfold Format.mul;rw[c,j];simp only[Datum.product,Option.map_some,Format.write,Bool.false_xor];generalize hS:m*2 ^ (52-L)=S at *;have f:(4503599627370496*S).log2=104:=zjp _ _ (by omega) (by omega);have a:lastP L e=e+L-52:=by unfold lastP;omega
 have b:sig m L e=S:=by unfold sig;rw[a,show(e-(e+↑L-52)).toNat=52-L from by omega,hS]
 rw[zih (4503599627370496*S) S _ (e+L-52) (by omega) (by rw[f];omega) (by omega) (by rw[show(e+(L:Int)-52-(((1023:Nat):Int)-1075+(((e+L+1023).toNat:Int)-1075))).toNat=52 from by omega,Nat.mul_comm])];unfold fw at d ⊢;rw[a,b]at d ⊢;refine congrArg some ?_;exact Nat.min_eq_left (by omega)
theorem Fits.mul_small (h:Fits m L e) (hn:e+L< -1022):Ieee.double.mul 4368491638549381120 ((e+L+1076).toNat*4503599627370496+(m*2 ^ (52-L)-4503599627370496))=some (fw m L e):=by
 obtain⟨k,g⟩:=h.full;have h1:=h.len;have h2:=h.e0;have h3:=h.e1;obtain⟨g0,d⟩:=h.fw_lt;have c:=zdm 970 4503599627370496 (by omega) (by omega) (by omega) (by omega);rw[show 970*4503599627370496+(4503599627370496-4503599627370496)=4368491638549381120 from rfl]at c;have j:=zdm (e+L+1076).toNat (m*2 ^ (52-L)) (by omega) (by omega) k g;unfold Format.mul;rw[c,j];simp only[Datum.product,Option.map_some,Format.write,Bool.false_xor];have a:lastP L e=-1074:=by unfold lastP;omega
 obtain⟨q,hq⟩:∃q:Nat,e=-1074+q:=⟨(e+1074).toNat,by omega⟩
 have b:sig m L e=m*2 ^ q:=by unfold sig;rw[a,show(e- -1074).toNat=q from by omega]
 have i:4503599627370496*(m*2 ^ (52-L))=m*2 ^ q*2 ^ (104-L-q):=by
  rw[show(4503599627370496:Nat)=2 ^ 52 from by decide,<-Nat.mul_assoc,Nat.mul_comm (2 ^ 52) m,Nat.mul_assoc,<-Nat.pow_add,Nat.mul_assoc,<-Nat.pow_add,show 52+(52-L)=q+(104-L-q)from by omega]
 have f:(4503599627370496*(m*2 ^ (52-L))).log2=104:=zjp _ _ (by omega) (by omega);rw[zih _ (m*2 ^ q) (((970:Nat):Int)-1075+(((e+L+1076).toNat:Int)-1075)) (-1074) (by omega) (by rw[f];omega) (by omega) (by rw[i,show((-1074:Int)-(((970:Nat):Int)-1075+(((e+L+1076).toNat:Int)-1075))).toNat=104-L-q from by omega])];unfold fw at d ⊢;rw[a,b]at d ⊢;refine congrArg some ?_;exact Nat.min_eq_left (by omega)
theorem Fits.order_self (h:Fits m L e):Ieee.double.order (fw m L e) (fw m L e)=some .eq:=by
 unfold Format.order;rw[h.read];simp[Datum.order]
theorem Fits.order_zero (h:Fits m L e):Ieee.double.order (fw m L e) 0=some .gt:=by
 obtain⟨a,b,c,d,f⟩:=h.sig_bd;unfold Format.order;have g:Ieee.double.read 0=.number false 0 (-1074):=by decide
 rw[h.read,g];simp only[Datum.order,signed,Bool.false_eq_true,if_false,Nat.zero_shiftLeft];rw[show min (lastP L e) (-1074)=-1074 from by omega,Nat.shiftLeft_eq];have:0<sig m L e*2 ^ (lastP L e- -1074).toNat:=Nat.mul_pos a (Nat.two_pow_pos _);generalize sig m L e*2 ^ (lastP L e- -1074).toNat=N at this;simp only[compare,compareOfLessAndEq];rw[if_neg (by omega),if_neg (by omega)]
theorem Fits.order_max (h:Fits m L e):Ieee.double.order (fw m L e) 9218868437227405311=some .lt\/Ieee.double.order (fw m L e) 9218868437227405311=some .eq:=by
 obtain⟨a,b,c,d,f⟩:=h.sig_bd;unfold Format.order;have g:Ieee.double.read 9218868437227405311=.number false 9007199254740991 971:=by decide
 rw[h.read,g];simp only[Datum.order,signed,Bool.false_eq_true,if_false];rw[show min (lastP L e) 971=lastP L e from by omega,show(lastP L e-lastP L e).toNat=0 from by omega,Nat.shiftLeft_zero,Nat.shiftLeft_eq];have:sig m L e<=9007199254740991*2 ^ (971-lastP L e).toNat:=Nat.le_trans (by omega) (Nat.le_mul_of_pos_right 9007199254740991 (Nat.two_pow_pos _));generalize 9007199254740991*2 ^ (971-lastP L e).toNat=N at this;simp only[compare,compareOfLessAndEq];by_cases h:(sig m L e:Int)<(N:Int)
 .rw[if_pos h];exact .inl rfl
 .grind
theorem Fits.fields (h:Fits m L e):∃z:Nat,z<=52/\sig m L e=m*2 ^ z/\e=lastP L e+z/\
 ((fw m L e /4503599627370496=0/\fw m L e%4503599627370496=m*2 ^ z/\e=-1074+z)\/(∃k:Nat,fw m L e /4503599627370496=k+1/\k+1<=2046/\fw m L e%4503599627370496+4503599627370496=m*2 ^ z/\e=(k:Int)-1074+z)):=by
 obtain⟨a,b,c,d,f⟩:=h.sig_bd;have h1:=h.len;have h2:=h.e0;have h3:=h.e1;have h0:=h.last_le;refine⟨(e-lastP L e).toNat,by unfold lastP;omega,rfl,by omega,?_⟩;obtain⟨k,g⟩:∃k:Nat,lastP L e=-1074+k:=⟨(lastP L e+1074).toNat,by omega⟩
 have i:fw m L e=k*4503599627370496+sig m L e:=by unfold fw;rw[g,show(-1074+(k:Int)+1074).toNat=k from by omega]
 have j:m*2 ^ (e-lastP L e).toNat=sig m L e:=rfl;rw[j,i];by_cases hn:sig m L e<4503599627370496
 .omega
 .grind
theorem zxq (m z:Nat) (hm:m%2=1) (hz:m*2 ^ z<18446744073709551616):Lib.ctz 64 (m*2 ^ z)=z:=by
 have b:0<m*2 ^ z:=Nat.mul_pos (by omega) (Nat.two_pow_pos _);obtain⟨q,a,_⟩:=Lib.ctzFrom_spec 64 (m*2 ^ z) b hz;unfold Lib.ctz;rw[if_neg (by omega)];generalize Lib.ctzFrom 64 (m*2 ^ z)=c at a;rcases Nat.lt_trichotomy c z with h|h|h
 .obtain⟨d,rfl⟩:∃d,z=c+(d+1):=⟨z-c-1,by omega⟩
  rw[Nat.pow_add,Nat.mul_left_comm]at a;have:=Nat.eq_of_mul_eq_mul_left (Nat.two_pow_pos c) a;rw[Nat.pow_succ,<-Nat.mul_assoc]at this;omega
 .exact h
 .obtain⟨d,rfl⟩:∃d,c=z+(d+1):=⟨c-z-1,by omega⟩
  rw[Nat.pow_add,Nat.mul_assoc,Nat.mul_comm m]at a;have:=Nat.eq_of_mul_eq_mul_left (Nat.two_pow_pos z) a;rw[Nat.pow_succ,Nat.mul_assoc,Nat.mul_left_comm]at this;omega
end
end Flt
theorem zbs (a b:Nat) (ha:a<18446744073709551616) (hb:b<18446744073709551616):
 bits .andNot .u64 (a:Int) (b:Int)=((a &&& (18446744073709551615-b):Nat):Int):=by
 have hx:a &&& (18446744073709551615-b)<2 ^ 64:=Nat.and_lt_two_pow _ (by omega);have c:(BitVec.ofInt 64 (a:Int)).toNat=a:=by
  grind
 have d:(BitVec.ofInt 64 (b:Int)).toNat=b:=by
  grind
 show IntKind.u64.wrap ((BitVec.ofInt 64 (a:Int) &&& ~~~ BitVec.ofInt 64 (b:Int)).toNat:Int)=_;rw[BitVec.toNat_and,BitVec.toNat_not,c,d,IntKind.wrap_u64];rw[show 2 ^ 64-1-b=18446744073709551615-b from by omega];omega
theorem zel (a n:Nat):a &&& (2 ^ n-1)=a%2 ^ n:=Nat.and_two_pow_sub_one_eq_mod a n
theorem zvr (a n:Nat) (h:a<2 ^ n):a &&& 2 ^ n=0:=by
 apply Nat.eq_of_testBit_eq;intro i;rw[Nat.testBit_and,Nat.testBit_two_pow,Nat.zero_testBit];by_cases hi:n=i
 .subst hi;rw[Nat.testBit_lt_two_pow h];rfl
 .simp[hi]
theorem zxr (f k n:Nat) (h:f<2 ^ n):f ||| (k*2 ^ n)=f+k*2 ^ n:=by
 rw[Nat.or_comm,Nat.mul_comm,<-Nat.two_pow_add_eq_or_of_lt h,Nat.add_comm]
theorem zjq (a:Nat) (h:a<9223372036854775808):bits .andNot .u64 (a:Int) 9223372036854775808=(a:Int):=by
 have:=zbs a 9223372036854775808 (by omega) (by omega);rw[show(18446744073709551615-9223372036854775808:Nat)=2 ^ 63-1 from by decide,zel,Nat.mod_eq_of_lt (by omega)]at this;exact this
theorem zsq (a:Nat) (h:a<18446744073709551616):bits .and .u64 (a:Int) 4503599627370495=((a%4503599627370496:Nat):Int):=by
 have:=bits_and_u64_nat a 4503599627370495 h (by omega);rw[show(4503599627370495:Nat)=2 ^ 52-1 from by decide,zel]at this;exact this
theorem zmh (a:Nat) (h:a<9223372036854775808):bits .andNot .u64 (a:Int) 9218868437227405312=((a%4503599627370496:Nat):Int):=by
 have:=zbs a 9218868437227405312 (by omega) (by omega);rw[show(18446744073709551615-9218868437227405312:Nat)=(2 ^ 52-1) ||| 2 ^ 63 from by decide,Nat.and_or_distrib_left,zel,zvr a 63 (by omega),Nat.or_zero]at this;exact this
theorem zo9 (f k:Nat) (h:f<4503599627370496) (hk:k<4096):bits .or .u64 (f:Int) ((k*4503599627370496:Nat):Int)=((k*4503599627370496+f:Nat):Int):=by
 have:=bits_or_u64_nat f (k*4503599627370496) (by omega) (by omega);rw[show f |||k*4503599627370496=f+k*4503599627370496 from zxr f k 52 h,Nat.add_comm]at this;exact this
theorem or_one (f:Nat) (h:f<4503599627370496):bits .or .u64 (f:Int) 4503599627370496=((f+4503599627370496:Nat):Int):=by
 have:=zo9 f 1 h (by omega);rw[Nat.one_mul,Nat.add_comm]at this;exact this
theorem zvs (k:Nat) (h:k<2048):bits .and .i64 (k:Int) 2047=(k:Int):=by
 have a:(BitVec.ofInt 64 (k:Int)).toNat=k:=by
  grind
 have b:(BitVec.ofInt 64 (2047:Int)).toNat=2047:=by decide
 show IntKind.i64.wrap ((BitVec.ofInt 64 (k:Int) &&& BitVec.ofInt 64 2047).toNat:Int)=_;rw[BitVec.toNat_and,a,b,show(2047:Nat)=2 ^ 11-1 from by decide,zel,Nat.mod_eq_of_lt (by omega)];simp[IntKind.wrap,IntKind.signed,IntKind.bits];omega
end Go.Proofs.YtpgmfihonmoliaaGreatDoor

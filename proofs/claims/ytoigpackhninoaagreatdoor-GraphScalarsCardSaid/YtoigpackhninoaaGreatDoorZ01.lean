import Derived.Test.YtoigpackhninoaaGreatDoorRows
import Derived.WalkSpells
import Derived.WalkLawsBesides
import Derived.Handy
import Derived.Deep.AppendLies
import Derived.BigQuiet
import Derived.Deep.Fields
import Derived.Shelf.Strings.Trim
import Derived.Shelf.Small.Utf8
import Derived.Shelf.Small.Wraps
import Derived.Shelf.Strconv.Itoa3
import Derived.Shelf.Strconv.ErrVarAll
import Derived.Shelf.Pu.ParseUintPublic10
import Derived.Shelf.Strings.Shaped
import Derived.Shelf.Strings.Runes
import Derived.Shelf.Strings.AsciiSet
import Derived.Shelf.Strings.Repeat
import Derived.Shelf.Unicode.DecodeAny
import Derived.Shelf.Strings.BuilderCap
namespace Go.Proofs.YtoigpackhninoaaGreatDoor
open Go.RowKit
theorem zn5 {a b:Bool} (h:a=b):Ending.returned (.bool a)=.returned (.bool b):=by rw[h]
theorem zk2 {k:IntKind} {a b:Int} (h:a=b):Ending.returned (.int k a)=.returned (.int k b):=by rw[h]
theorem zb8 {B:Nat} {w wr w1:World} (h:Below B w wr) (hz:B<=wr.heap.size) (h1:Below wr.heap.size wr w1):Below B w w1:=h.trans (h1.mono hz)
theorem zbw (a:Addr) (n:Nat):(a.add n).block=a.block:=by unfold Addr.add;split<;>rfl
theorem zjg (a:Addr) (i j:Nat):(a.add i).add j=a.add (i+j):=by
 unfold Addr.add;by_cases hi:i=0<;>by_cases hj:j=0<;>simp[hi,hj,Nat.add_assoc]
def Reads (w:World) (B size:Nat) (A:Option Addr) (n:Nat) (xs:List Value):Prop:=
 xs.length=n*size/\(0<n->∃ad,A=some ad/\ad.block<B/\∀j u,xs[j]? =some u->w.cell? (ad.add j)=some u)
section
variable {w w':World} {B B' size n:Nat} {A:Option Addr} {xs:List Value}
theorem Reads.none_:Reads w B size A 0 []:=⟨by simp,fun h=>absurd h (by omega)⟩
theorem Reads.at_ {k:Nat} (h:Reads w B 1 A n xs) (hk:k<n):∃ad u,A=some ad/\ad.block<B/\xs[k]? =some u/\w.cell? (ad.add k)=some u:=by
 obtain⟨ad,e,hb,hc⟩:=h.2 (by omega);have hl:k<xs.length:=by have:=h.1;omega
 exact⟨ad,xs[k],e,hb,List.getElem?_eq_getElem hl,hc k _ (List.getElem?_eq_getElem hl)⟩
theorem Reads.keep (h:Reads w B size A n xs) (hk:∀p:Addr,p.block<B->w'.cell? p=w.cell? p):Reads w' B size A n xs:=
 ⟨h.1,fun hn=>by
  obtain⟨ad,e,hb,hc⟩:=h.2 hn;exact⟨ad,e,hb,fun j u hu=>(hk _ (by rw[zbw];exact hb)).trans (hc j u hu)⟩⟩
theorem Reads.more (h:Reads w B size A n xs) (hB:B<=B'):Reads w B' size A n xs:=
 ⟨h.1,fun hn=>by
  obtain⟨ad,e,hb,hc⟩:=h.2 hn;exact⟨ad,e,by omega,hc⟩⟩
theorem Reads.below (h:Reads w B size A n xs) (hb:Below B w w'):Reads w' B size A n xs:=h.keep fun _ hp=>hb.cell hp
theorem Reads.drew (h:Reads w B size A n xs):Reads w.drew B size A n xs:=h
theorem Reads.drewN (h:Reads w B size A n xs) (k:Nat):Reads (w.drewN k) B size A n xs:=h
theorem Reads.alloc (h:Reads w B size A n xs) (hB:B<=w.heap.size) (o:Obj):Reads (w.alloc o) B size A n xs:=h.keep fun p hp=>World.cell?_alloc_lt w o p (by omega)
theorem Reads.setCell (h:Reads w B size A n xs) {p:Addr} (hB:B<=p.block) (u:Value):Reads (w.setCell p u) B size A n xs:=
 h.keep fun q hq=>World.cell?_setCell_other w p q u (fun e=>by subst e;omega)
theorem Reads.grown (h:Reads w B size A n xs) {row:Option Nat} (hg:w.grownBy w' row) (hB:B<=w.heap.size) (hr:∀g,row=some g->B<=g):Reads w' B size A n xs:=
 h.keep fun p hp=>World.cell?_of_block (hg.block p.block (by omega) (fun e=>by have:=hr _ e.symm;omega))
theorem Reads.cut (h:Reads w B size A n xs) {k cap:Nat} (hk:k<=n) (hc:n<=cap):
 Reads w B size (if cap=k then A else A.map (·.add (k*size))) (n-k) (xs.drop (k*size)):=by
 refine⟨by rw[List.length_drop,h.1,Nat.sub_mul],fun hn=>?_⟩;obtain⟨ad,rfl,hb,hcell⟩:=h.2 (by omega);rw[if_neg (by omega)];refine⟨ad.add (k*size),rfl,by rw[zbw];exact hb,fun j u hu=>?_⟩;rw[zjg];exact hcell _ u (by rw[<-hu,List.getElem?_drop])
theorem Reads.of_own {base:Nat} {e:TypeId} {c:Nat} (h:w.ownsRow base e size (.slice A n c) n xs):Reads w w.heap.size size A n xs:=by
 refine⟨h.1,fun hn=>?_⟩;obtain⟨g,cap,hv,_,hlt⟩:=h.form hn;have hA:A=some ⟨g,0,none⟩:=by injection hv
 subst hA;exact⟨_,rfl,hlt,h.cells (g:=g) rfl⟩
end
def Blk (w:World) (g:Nat) (t:TypeId) (cs:Array Value):Prop:=w.heap[g]? =some (.cells cs t (0,0))
section
variable {w w':World} {g:Nat} {t:TypeId} {cs:Array Value}
theorem Blk.lt (h:Blk w g t cs):g<w.heap.size:=by
 rcases Nat.lt_or_ge g w.heap.size with hlt|hge
 ·exact hlt
 ·unfold Blk at h;rw[Array.getElem?_eq_none hge]at h;cases h
theorem Blk.cell (h:Blk w g t cs) (i:Nat):w.cell? ⟨g,i,none⟩=cs[i]? :=cell_of_row w g i cs t (0,0) h
theorem Blk.frozen (h:Blk w g t cs) (i:Nat):w.frozen? ⟨g,i,none⟩=false:=by
 unfold Blk at h;simp[World.frozen?,h]
theorem Blk.new (w:World) (t:TypeId) (cs:Array Value):Blk (w.alloc (.cells cs t)) w.heap.size t cs:=heap_alloc_new w _
theorem Blk.drew (h:Blk w g t cs):Blk w.drew g t cs:=h
theorem Blk.drewN (h:Blk w g t cs) (n:Nat):Blk (w.drewN n) g t cs:=h
theorem Blk.alloc (h:Blk w g t cs) (o:Obj):Blk (w.alloc o) g t cs:=(Below.heap_alloc w o g h.lt).trans h
theorem Blk.set_ (h:Blk w g t cs) (i:Nat) (u:Value):Blk (w.setCell ⟨g,i,none⟩ u) g t (cs.setIfInBounds i u):=by
 unfold Blk at h ⊢;simp[World.setCell,Array.getElem?_modify,h]
theorem Blk.far (h:Blk w g t cs) {p:Addr} (hp:g≠p.block) (u:Value):Blk (w.setCell p u) g t cs:=(Below.heap_setCell w p u g hp).trans h
theorem Blk.below {B:Nat} (h:Blk w g t cs) (hb:Below B w w') (hg:g<B):Blk w' g t cs:=(hb.block g hg).trans h
theorem Blk.grown {row:Option Nat} (h:Blk w g t cs) (hb:w.grownBy w' row) (hg:some g≠row):Blk w' g t cs:=(hb.block g h.lt hg).trans h
theorem Blk.ne_ {g':Nat} {t':TypeId} {cs':Array Value} (h:Blk w g t cs) (h':Blk w g' t' cs') (hne:t≠t'):g≠g':=by
 rintro rfl;unfold Blk at h h';rw[h]at h';injection h' with h'
 injection h' with _ ht
 exact hne ht
theorem zbk {base:Nat} {e:TypeId} {size n:Nat} {v:Value} {xs:List Value} (h:w.ownsRow base e size v n xs) (hg:Blk w g t cs) (hne:e≠t):v.ownBlock≠some g:=by
 rcases h.2 with⟨rfl,_⟩|⟨g',cap,cur,rfl,_,hh,_⟩
 ·simp[Value.ownBlock]
 ·intro he;have:g'=g:=by simpa[Value.ownBlock]using he
  subst this;exact Blk.ne_ (t:=e) hh hg hne rfl
end
section
variable {P:Program} (w:World)
theorem zc3 (base:Nat) (t ty e:TypeId) (i:TypeInfo) (size:Nat) (ht:P.underlying t=some (.slice e)) (hi:P.info? e=some i)
 (v:Value) (n:Nat) (xs:List Value) (hown:w.ownsRow base e size v n xs) (c:Nat):(Builtin.append_ #[t,t] ty #[v,.slice none 0 c]).run P w=.ok v w:=by
 rcases hown.2 with⟨rfl,rfl⟩|⟨g,cap,cur,rfl,_,_,hnc,_⟩
 ·simp[Builtin.append_,run_underlying ht,sizeOf,typeInfo,hi,Builtin.lenOf,Builtin.firstCells]
 ·simp[Builtin.append_,run_underlying ht,sizeOf,typeInfo,hi,Builtin.lenOf,Builtin.firstCells,hnc,storeCells]
theorem zeq (base:Nat) (t ty e:TypeId) (i:TypeInfo) (z:Value) (size bytes:Nat) (ht:P.underlying t=some (.slice e)) (hi:P.info? e=some i) (hz:i.zero=some z)
 (hsize:i.size=size) (hby:i.bytes=bytes) (hzs:z.cells.size=size) (hsz:0<size)
 (v:Value) (n:Nat) (xs:List Value) (hown:w.ownsRow base e size v n xs)
 (B:Nat) (A:Option Addr) (m c:Nat) (news:List Value) (hr:Reads w B size A m news) (h1:∀u∈news,u.oneCell'=true)
 (h63:n+m<=maxLen) (hbytes:(n+m)*bytes<=140737488355328) (hbase:base<=w.heap.size):
 ∃v' w',(Builtin.append_ #[t,t] ty #[v,.slice A m c]).run P w=.ok v' w'/\w'.ownsRow base e size v' (n+m) (xs++news)/\w.grownBy w' v.ownBlock/\
  (v'.ownBlock=v.ownBlock\/v'.ownBlock=some w.heap.size):=by
 rcases A with _|ad
 ·have hm:m=0:=by
   rcases Nat.eq_zero_or_pos m with h0|h0
   ·exact h0
   ·obtain⟨ad,h,_⟩:=hr.2 h0;cases h
  subst hm;have hn:news=[]:=List.eq_nil_of_length_eq_zero (by simpa using hr.1);subst hn;exact⟨v,w,zc3 w base t ty e i size ht hi v n xs hown c,by simpa using hown,World.grownBy.refl w _,.inl rfl⟩
 ·have hcells:∀j u,news[j]? =some u->w.cell? (ad.add j)=some u:=by
   intro j u hu;rcases Nat.eq_zero_or_pos m with h0|h0
   ·subst h0;have hn:news=[]:=List.eq_nil_of_length_eq_zero (by simpa using hr.1);subst hn;simp at hu
   ·obtain⟨ad',h,_,hc⟩:=hr.2 h0;injection h with h
    subst h;exact hc j u hu
  obtain⟨v',w',hrun,h2,h3,_,h5⟩:=run_append_own_at (P:=P) w base t ty e i z size bytes ht hi hz hsize hby hzs hsz v n xs hown ad m c news hr.1 hcells h1 h63 hbytes hbase;exact⟨v',w',hrun,h2,h3,h5⟩
theorem zcq {o:Oper} {a:Act} {K:Act->World->Prop} {Q:Exit->Act->World->Prop} (s x:Operand) (t:TypeId)
 (ho:o.op=.call {callee:=.builtin .append,args:=#[s,x],argTypes:=#[t,t]})
 (base:Nat) (e:TypeId) (i:TypeInfo) (z:Value) (size bytes:Nat) (ht:P.underlying t=some (.slice e)) (hi:P.info? e=some i) (hz:i.zero=some z)
 (hsize:i.size=size) (hby:i.bytes=bytes) (hzs:z.cells.size=size) (hsz:0<size)
 (v:Value) (n:Nat) (xs:List Value) (hs:a.eval s=v) (hown:w.ownsRow base e size v n xs)
 (B:Nat) (A:Option Addr) (m c:Nat) (news:List Value) (hx:a.eval x=.slice A m c) (hr:Reads w B size A m news) (h1:∀u∈news,u.oneCell'=true)
 (h63:n+m<=maxLen) (hbytes:(n+m)*bytes<=140737488355328) (hbase:base<=w.heap.size)
 (h:∀v' w',w'.ownsRow base e size v' (n+m) (xs++news)->w.grownBy w' v.ownBlock->(v'.ownBlock=v.ownBlock\/v'.ownBlock=some w.heap.size)->K (a.put o.dst v') w'):o.wp P a w K Q:=by
 obtain⟨v',w',hrun,h2,h3,h4⟩:=zeq (P:=P) w base t o.type e i z size bytes ht hi hz hsize hby hzs hsz v n xs hown B A m c news hr h1 h63 hbytes hbase;unfold Oper.wp execOp;simp only[ho,resolve,invoke,builtin,Sem.run_bind,Sem.run_pure,Result.andThen_ok,List.map_toArray,List.map_cons,List.map_nil,hs,hx,hrun];exact h v' w' h2 h3 h4
theorem zc4 {ops:Array Oper} {rest:List Oper} {o:Oper} {a:Act} {Q:Exit->Act->World->Prop} (hgd:o.guard=none) (s x:Operand) (t:TypeId)
 (ho:o.op=.call {callee:=.builtin .append,args:=#[s,x],argTypes:=#[t,t]})
 (base:Nat) (e:TypeId) (i:TypeInfo) (z:Value) (size bytes:Nat) (ht:P.underlying t=some (.slice e)) (hi:P.info? e=some i) (hz:i.zero=some z)
 (hsize:i.size=size) (hby:i.bytes=bytes) (hzs:z.cells.size=size) (hsz:0<size)
 (v:Value) (n:Nat) (xs:List Value) (hs:a.eval s=v) (hown:w.ownsRow base e size v n xs)
 (B:Nat) (A:Option Addr) (m c:Nat) (news:List Value) (hx:a.eval x=.slice A m c) (hr:Reads w B size A m news) (h1:∀u∈news,u.oneCell'=true)
 (h63:n+m<=maxLen) (hbytes:(n+m)*bytes<=140737488355328) (hbase:base<=w.heap.size)
 (h:∀v' w',w'.ownsRow base e size v' (n+m) (xs++news)->w.grownBy w' v.ownBlock->(v'.ownBlock=v.ownBlock\/v'.ownBlock=some w.heap.size)->wpList P ops Q rest (a.put o.dst v') w'):wpList P ops Q (o::rest) a w:=
 wpList_plain hgd fun _ hK=>zcq w s x t ho base e i z size bytes ht hi hz hsize hby hzs hsz v n xs hs hown B A m c news hx hr h1 h63 hbytes hbase fun v' w' h2 h3 h4=>hK _ _ (h v' w' h2 h3 h4)
theorem zdv {ops:Array Oper} {o:Oper} {a:Act} {K:Act->World->Prop} {Q:Exit->Act->World->Prop} {E:Prop} (hgd:o.guard=none) (s x:Operand) (t:TypeId)
 (ho:o.op=.call {callee:=.builtin .append,args:=#[s,x],argTypes:=#[t,t]})
 (base:Nat) (e:TypeId) (i:TypeInfo) (z:Value) (size bytes:Nat) (ht:P.underlying t=some (.slice e)) (hi:P.info? e=some i) (hz:i.zero=some z)
 (hsize:i.size=size) (hby:i.bytes=bytes) (hzs:z.cells.size=size) (hsz:0<size)
 (v:Value) (n:Nat) (xs:List Value) (hs:a.eval s=v) (hown:w.ownsRow base e size v n xs)
 (B:Nat) (A:Option Addr) (m c:Nat) (news:List Value) (hx:a.eval x=.slice A m c) (hr:Reads w B size A m news) (h1:∀u∈news,u.oneCell'=true)
 (h63:n+m<=maxLen) (hbytes:(n+m)*bytes<=140737488355328) (hbase:base<=w.heap.size)
 (h:∀v' w',w'.ownsRow base e size v' (n+m) (xs++news)->w.grownBy w' v.ownBlock->(v'.ownBlock=v.ownBlock\/v'.ownBlock=some w.heap.size)->K (a.put o.dst v') w'):
 if Region.wanted o (yielded ops a.tmps)=true then Oper.wp P o a w K Q else E:=by
 have hw:Region.wanted o (yielded ops a.tmps)=true:=by simp[Region.wanted,hgd]
 rw[if_pos hw];exact zcq w s x t ho base e i z size bytes ht hi hz hsize hby hzs hsz v n xs hs hown B A m c news hx hr h1 h63 hbytes hbase h
end
theorem ex {α:Sort _} (a:α):∃q,a=q:=⟨a,rfl⟩
structure Lay (α:Type) where
 enc:α->List Value
 sz:Nat
 len:∀x,(enc x).length=sz
 one:∀x,∀u∈enc x,u.oneCell'=true
 pos:0<sz
section
variable {α:Type} (L:Lay α)
def Lay.all (l:List α):List Value:=l.flatMap L.enc
theorem Lay.all_len (l:List α):(L.all l).length=l.length*L.sz:=by
 induction l with
 |nil=>simp[Lay.all]
 |cons x l ih=>simp only[Lay.all,List.flatMap_cons,List.length_append,L.len,List.length_cons,Nat.add_mul,Nat.one_mul]at *;omega
theorem Lay.all_append (l r:List α):L.all (l++r)=L.all l++L.all r:=by simp[Lay.all]
theorem Lay.all_one (l:List α):∀u∈L.all l,u.oneCell'=true:=by
 intro u hu;simp only[Lay.all,List.mem_flatMap]at hu;obtain⟨x,_,hx⟩:=hu;exact L.one x u hx
theorem Lay.all_at (l:List α) (k:Nat) (x:α) (h:l[k]? =some x) (j:Nat) (u:Value) (hj:(L.enc x)[j]? =some u):(L.all l)[k*L.sz+j]? =some u:=by
 induction l generalizing k with
 |nil=>simp at h
 |cons y l ih=>
  have hjl:j<L.sz:=by
   have:=(List.getElem?_eq_some_iff.1 hj).1;rwa[L.len]at this
  cases k with
  |zero=>
   simp at h;subst h;simp only[Lay.all,List.flatMap_cons,Nat.zero_mul,Nat.zero_add];rw[List.getElem?_append_left (by rw[L.len];exact hjl)];exact hj
  |succ k=>
   simp at h;have:=ih k h;simp only[Lay.all,List.flatMap_cons]at this ⊢;rw[List.getElem?_append_right (by rw[L.len,Nat.add_mul];omega),L.len];rw[show(k+1)*L.sz+j-L.sz=k*L.sz+j from by rw[Nat.add_mul];omega];exact this
def RowAt (w:World) (B:Nat) (A:Option Addr) (l:List α):Prop:=Reads w B L.sz A l.length (L.all l)
def OwnRow (w:World) (base:Nat) (E:TypeId) (v:Value) (l:List α):Prop:=w.ownsRow base E L.sz v l.length (L.all l)
end
theorem ze8 (a:Addr) (i j:Nat) (hj:0<j):a.add (i+j)={block:=(a.add i).block,off:=(a.add i).off+j}:=by
 unfold Addr.add;rw[if_neg (by omega)];split<;>simp_all<;>omega
section
variable {α:Type} {L:Lay α} {w w':World} {B B' base:Nat} {E:TypeId} {A:Option Addr} {v:Value} {l m:List α}
theorem RowAt.nil:RowAt L w B none []:=Reads.none_
theorem RowAt.get {k:Nat} (h:RowAt L w B A l) (hk:k<l.length):
 ∃ad,A=some ad/\ad.block<B/\(∀u,(L.enc l[k])[0]? =some u->w.cell? (ad.add (k*L.sz))=some u)/\
  ∀j u,0<j->(L.enc l[k])[j]? =some u->w.cell? {block:=(ad.add (k*L.sz)).block,off:=(ad.add (k*L.sz)).off+j}=some u:=by
 obtain⟨ad,e,hb,hc⟩:=h.2 (by omega);have hx:l[k]? =some l[k]:=List.getElem?_eq_getElem hk;refine⟨ad,e,hb,fun u hu=>hc _ _ ?_,fun j u hj hu=>?_⟩
 ·have:=L.all_at l k l[k] hx 0 u hu;simpa using this
 ·rw[<-ze8 _ _ _ hj];exact hc _ _ (L.all_at l k l[k] hx j u hu)
theorem RowAt.below (h:RowAt L w B A l) (hb:Below B w w'):RowAt L w' B A l:=Reads.below h hb
theorem RowAt.more (h:RowAt L w B A l) (hB:B<=B'):RowAt L w B' A l:=Reads.more h hB
theorem RowAt.alloc (h:RowAt L w B A l) (hB:B<=w.heap.size) (o:Obj):RowAt L (w.alloc o) B A l:=Reads.alloc h hB o
theorem RowAt.drewN (h:RowAt L w B A l) (n:Nat):RowAt L (w.drewN n) B A l:=h
theorem OwnRow.nil:OwnRow L w base E (.slice none 0 0) []:=World.ownsRow_nil w base E L.sz
theorem OwnRow.form (h:OwnRow L w base E v l):∃A c,v=.slice A l.length c/\RowAt L w w.heap.size A l:=by
 have h':=h;rcases h.2 with⟨hv,hn⟩|⟨g,cap,cur,hv,_⟩
 ·have hl:l=[]:=List.eq_nil_of_length_eq_zero hn;subst hl;exact⟨none,0,hv,RowAt.nil⟩
 ·exact⟨_,cap,hv,Reads.of_own (c:=cap) (by rw[<-hv];exact h')⟩
theorem OwnRow.below (h:OwnRow L w base E v l) (hb:Below B w w') (hB:∀k,v.ownBlock=some k->k<B):OwnRow L w' base E v l:=by
 refine⟨h.1,?_⟩;rcases h.2 with hn|⟨g,cap,cur,rfl,hbg,hgg,rest⟩
 ·exact .inl hn
 ·exact .inr ⟨g,cap,cur,rfl,hbg,by rw[hb.block g (hB g (by simp[Value.ownBlock]))];exact hgg,rest⟩
theorem OwnRow.lt (h:OwnRow L w base E v l):∀k,v.ownBlock=some k->base<=k/\k<w.heap.size:=World.ownsRow.lt h
theorem OwnRow.later (h:OwnRow L w base E v l) (hb:Below w.heap.size w w'):OwnRow L w' base E v l:=h.below hb (fun k hk=>(h.lt k hk).2)
theorem OwnRow.alloc (h:OwnRow L w base E v l) (o:Obj):OwnRow L (w.alloc o) base E v l:=World.ownsRow.alloc h o
theorem OwnRow.drewN (h:OwnRow L w base E v l) (n:Nat):OwnRow L (w.drewN n) base E v l:=h
theorem grownBy_setCell' (w:World) (p:Addr) (u:Value):w.grownBy (w.setCell p u) (some p.block):=
 ⟨rfl,rfl,rfl,by simp[World.setCell],fun k _ hne=>Below.heap_setCell w p u k (fun e=>hne (by rw[e]))⟩
theorem OwnRow.setCell (h:OwnRow L w base E v l) {p:Addr} (hp:v.ownBlock≠some p.block) (u:Value):OwnRow L (w.setCell p u) base E v l:=
 World.ownsRow.kept h (grownBy_setCell' w p u) (.inr hp)
theorem OwnRow.grown_below (h:OwnRow L w base E v l) (hg:w.grownBy w' v.ownBlock) (hb:base<=w.heap.size):Below base w w':=
 (Below.refl base w).grown hg hb (fun k hk=>(h.lt k hk).1)
theorem OwnRow.ne_ (h:OwnRow L w base E v l) {g:Nat} (hg:w.heap.size<=g):some g≠v.ownBlock:=by
 intro e;have:=h.lt g e.symm;omega
theorem OwnRow.lower {base':Nat} (h:OwnRow L w base E v l) (hb:base'<=base):OwnRow L w base' E v l:=by
 refine⟨h.1,?_⟩;rcases h.2 with hn|⟨g,cap,cur,rfl,hbg,rest⟩
 ·exact .inl hn
 ·exact .inr ⟨g,cap,cur,rfl,by omega,rest⟩
theorem OwnRow.lit1 (hb:base<=w.heap.size) (x:α) (cs:Array Value) (hcs:cs.toList=L.enc x):
 OwnRow L (w.alloc (.cells cs E)) base E (.slice (some ⟨w.heap.size,0,none⟩) 1 1) [x]:=by
 have hsz:cs.size=L.sz:=by rw[<-Array.length_toList,hcs,L.len]
 refine⟨by simp[Lay.all,L.len],.inr ⟨w.heap.size,1,_,rfl,hb,heap_alloc_new w _,Nat.le_refl _,by simp[maxLen],by simp[hsz],?_⟩⟩;rw[hcs];simp[Lay.all,List.take_of_length_le,L.len]
theorem RowAt.lit1 (x:α) (cs:Array Value) (hcs:cs.toList=L.enc x) (n:Nat) (hn:n=w.heap.size):RowAt L (w.alloc (.cells cs E)) (w.heap.size+1) (some ⟨n,0,none⟩) [x]:=by
 subst hn;have h:=Reads.of_own (OwnRow.lit1 (L:=L) (E:=E) (Nat.le_refl w.heap.size) x cs hcs);rw[World.size_alloc]at h;exact h
end
structure SliceT (P:Program) {α:Type} (L:Lay α) (t e:TypeId) (bytes:Nat):Prop where
 und:P.underlying t=some (.slice e)
 info:∃i z,P.info? e=some i/\i.zero=some z/\i.size=L.sz/\i.bytes=bytes/\z.cells.size=L.sz
 small:bytes<=256
section
variable {P:Program} {α:Type} {L:Lay α} (w:World)
theorem zac {ops:Array Oper} {rest:List Oper} {o:Oper} {a:Act} {Q:Exit->Act->World->Prop} (hgd:o.guard=none) (s x:Operand) (t e:TypeId) (bytes:Nat)
 (ho:o.op=.call {callee:=.builtin .append,args:=#[s,x],argTypes:=#[t,t]}) (hT:SliceT P L t e bytes)
 (base:Nat) (v:Value) (l:List α) (hs:a.eval s=v) (hown:OwnRow L w base e v l)
 (B:Nat) (A:Option Addr) (c:Nat) (m:List α) (hx:a.eval x=.slice A m.length c) (hr:RowAt L w B A m)
 (hlen:l.length+m.length<=1073741824) (hbase:base<=w.heap.size)
 (h:∀v' w',OwnRow L w' base e v' (l++m)->w.grownBy w' v.ownBlock->(v'.ownBlock=v.ownBlock\/v'.ownBlock=some w.heap.size)->wpList P ops Q rest (a.put o.dst v') w'):wpList P ops Q (o::rest) a w:=by
 obtain⟨i0,z,hi,hz0,hz1,hz2,hz3⟩:=hT.info;have hb:(l.length+m.length)*bytes<=1073741824*256:=Nat.mul_le_mul hlen hT.small;refine zc4 w hgd s x t ho base e i0 z L.sz bytes hT.und hi hz0 hz1 hz2 hz3 L.pos v l.length (L.all l) hs hown B A m.length c (L.all m) hx hr (L.all_one m) (by simp only[maxLen];omega) (by omega) hbase ?_;intro v' w' h1 h2 h3;refine h v' w' ?_ h2 h3;unfold OwnRow;rw[List.length_append,L.all_append];exact h1
theorem zdw {ops:Array Oper} {o:Oper} {a:Act} {K:Act->World->Prop} {Q:Exit->Act->World->Prop} {E:Prop} (hgd:o.guard=none) (s x:Operand) (t e:TypeId) (bytes:Nat)
 (ho:o.op=.call {callee:=.builtin .append,args:=#[s,x],argTypes:=#[t,t]}) (hT:SliceT P L t e bytes)
 (base:Nat) (v:Value) (l:List α) (hs:a.eval s=v) (hown:OwnRow L w base e v l)
 (B:Nat) (A:Option Addr) (c:Nat) (m:List α) (hx:a.eval x=.slice A m.length c) (hr:RowAt L w B A m)
 (hlen:l.length+m.length<=1073741824) (hbase:base<=w.heap.size)
 (h:∀v' w',OwnRow L w' base e v' (l++m)->w.grownBy w' v.ownBlock->(v'.ownBlock=v.ownBlock\/v'.ownBlock=some w.heap.size)->K (a.put o.dst v') w'):
 if Region.wanted o (yielded ops a.tmps)=true then Oper.wp P o a w K Q else E:=by
 obtain⟨i0,z,hi,hz0,hz1,hz2,hz3⟩:=hT.info;have hb:(l.length+m.length)*bytes<=1073741824*256:=Nat.mul_le_mul hlen hT.small;refine zdv w hgd s x t ho base e i0 z L.sz bytes hT.und hi hz0 hz1 hz2 hz3 L.pos v l.length (L.all l) hs hown B A m.length c (L.all m) hx hr (L.all_one m) (by simp only[maxLen];omega) (by omega) hbase ?_;intro v' w' h1 h2 h3;refine h v' w' ?_ h2 h3;unfold OwnRow;rw[List.length_append,L.all_append];exact h1
end
structure za5 (w w':World) (S:Nat->Prop):Prop where
 os:w'.os=w.os
 tape:w'.tape=w.tape
 output:w'.output=w.output
 size:w.heap.size<=w'.heap.size
 block:∀k,k<w.heap.size->¬S k->w'.heap[k]? =w.heap[k]?
theorem za5.below {w w':World} {S:Nat->Prop} {B:Nat} (h:za5 w w' S) (hB:B<=w.heap.size) (hS:∀k,S k->B<=k):Below B w w':=
 ⟨h.os,h.tape,h.output,h.size,fun k hk=>h.block k (by omega) (fun hs=>by have:=hS k hs;omega)⟩
theorem za5.cell {w w':World} {S:Nat->Prop} (h:za5 w w' S) {g i:Nat} {v:Value} (hc:w.cell? ⟨g,i,none⟩=some v) (hS:¬S g):w'.cell? ⟨g,i,none⟩=some v:=
 (World.cell?_of_block (w:=w) (h.block g (World.block_lt_of_cell? w ⟨g,i,none⟩ hc) hS)).trans hc
theorem zan (s:List UInt8) (i j:Nat):(⟨s.toArray⟩:ByteArray).extract i j=⟨((s.drop i).take (j-i)).toArray⟩:=by
 apply ByteArray.ext;apply Array.ext';simp[ByteArray.extract,ByteArray.copySlice,List.extract]
section
variable {α:Type} {L:Lay α} {w:World} {B base:Nat} {E:TypeId} {A:Option Addr} {v:Value} {l:List α}
theorem Lay.all_drop (l:List α) (k:Nat):L.all (l.drop k)=(L.all l).drop (k*L.sz):=by
 induction l generalizing k with
 |nil=>simp[Lay.all]
 |cons x l ih=>
  cases k with
  |zero=>simp
  |succ k=>
   have e:L.all (x::l)=L.enc x++L.all l:=rfl;have h1:(L.enc x).drop ((k+1)*L.sz)=[]:=List.drop_eq_nil_of_le (by rw[L.len,Nat.add_mul];omega);rw[List.drop_succ_cons,ih,e,List.drop_append,h1,L.len,List.nil_append,show(k+1)*L.sz-L.sz=k*L.sz from by rw[Nat.add_mul];omega]
theorem Lay.all_take (l:List α) (k:Nat):L.all (l.take k)=(L.all l).take (k*L.sz):=by
 induction l generalizing k with
 |nil=>simp[Lay.all]
 |cons x l ih=>
  cases k with
  |zero=>simp[Lay.all]
  |succ k=>
   have e:L.all (x::l)=L.enc x++L.all l:=rfl;have e2:L.all (x::l.take k)=L.enc x++L.all (l.take k):=rfl;have h1:(L.enc x).take ((k+1)*L.sz)=L.enc x:=List.take_of_length_le (by rw[L.len,Nat.add_mul];omega);rw[List.take_succ_cons,e2,ih,e,List.take_append,h1,L.len,show(k+1)*L.sz-L.sz=k*L.sz from by rw[Nat.add_mul];omega]
theorem RowAt.take (h:RowAt L w B A l) (k:Nat) (hk:k<=l.length):RowAt L w B A (l.take k):=by
 refine⟨L.all_len _,fun hn=>?_⟩;rw[List.length_take]at hn;obtain⟨ad,e,hb,hc⟩:=h.2 (by omega);refine⟨ad,e,hb,fun j u hj=>hc j u ?_⟩;rw[Lay.all_take,List.getElem?_take]at hj;split at hj
 ·exact hj
 ·cases hj
theorem RowAt.drop (h:RowAt L w B A l) {k cap:Nat} (hk:k<=l.length) (hc:l.length<=cap):RowAt L w B (if cap=k then A else A.map (·.add (k*L.sz))) (l.drop k):=by
 have:=Reads.cut h hk hc;unfold RowAt;rw[List.length_drop,Lay.all_drop];exact this
end
section
variable {P:Program}
theorem run_slice_l (t e:TypeId) (i:TypeInfo) (ht:P.underlying t=some (.slice e)) (hi:P.info? e=some i) (a:Option Addr) (n c k:Nat) (hk:k<=n) (w:World):
 (Instr.slice t (.slice a n c) (some (.int .i64 (k:Int))) none none).run P w=.ok (.slice (if c=k then a else a.map (·.add (k*i.size))) (n-k) (c-k)) w:=by
 have e1:∀code,(Instr.sliceBound (.int .i64 (k:Int)) n code).run P w=.ok k w:=fun code=>by
  rw[run_sliceBound (P:=P) (w:=w) .i64 k n code (by omega) (by omega)];simp
 simp[Instr.slice,run_underlying ht,Instr.sliceBounds,sizeOf,typeInfo,hi,e1]
theorem run_slice_h (t e:TypeId) (i:TypeInfo) (ht:P.underlying t=some (.slice e)) (hi:P.info? e=some i) (a:Option Addr) (n c m:Nat) (hm:m<=c) (w:World):
 (Instr.slice t (.slice a n c) none (some (.int .i64 (m:Int))) none).run P w=.ok (.slice (if c=0 then a else a.map (·.add (0*i.size))) m c) w:=by
 have e1:∀code,(Instr.sliceBound (.int .i64 (m:Int)) c code).run P w=.ok m w:=fun code=>by
  rw[run_sliceBound (P:=P) (w:=w) .i64 m c code (by omega) (by omega)];simp
 simp[Instr.slice,run_underlying ht,Instr.sliceBounds,sizeOf,typeInfo,hi,e1]
theorem zf5 (t e:TypeId) (i:TypeInfo) (ht:P.underlying t=some (.slice e)) (hi:P.info? e=some i) (a:Option Addr) (n c:Nat) (k:Int) (h0:0<=k) (hk:k<=n) (w:World):
 (Instr.slice t (.slice a n c) (some (.int .i64 k)) none none).run P w=.ok (.slice (if c=k.toNat then a else a.map (·.add (k.toNat*i.size))) (n-k.toNat) (c-k.toNat)) w:=by
 have:=run_slice_l (P:=P) t e i ht hi a n c k.toNat (by omega) w;rwa[show((k.toNat:Nat):Int)=k from by omega]at this
end
theorem cells2 {w:World} {g:Nat} {t:TypeId} {v0 v1:Value} {l:List Value} (h:Blk w g t (List.toArray (v0::v1::l))):w.cell? ⟨g,0,none⟩=some v0/\w.cell? ⟨g,1,none⟩=some v1:=⟨h.cell 0,h.cell 1⟩
theorem cells3 {w:World} {g:Nat} {t:TypeId} {v0 v1 v2:Value} {l:List Value} (h:Blk w g t (List.toArray (v0::v1::v2::l))):w.cell? ⟨g,0,none⟩=some v0/\w.cell? ⟨g,1,none⟩=some v1/\w.cell? ⟨g,2,none⟩=some v2:=⟨h.cell 0,h.cell 1,h.cell 2⟩
theorem cells4 {w:World} {g:Nat} {t:TypeId} {v0 v1 v2 v3:Value} {l:List Value} (h:Blk w g t (List.toArray (v0::v1::v2::v3::l))):w.cell? ⟨g,0,none⟩=some v0/\w.cell? ⟨g,1,none⟩=some v1/\w.cell? ⟨g,2,none⟩=some v2/\w.cell? ⟨g,3,none⟩=some v3:=⟨h.cell 0,h.cell 1,h.cell 2,h.cell 3⟩
theorem cells5 {w:World} {g:Nat} {t:TypeId} {v0 v1 v2 v3 v4:Value} {l:List Value} (h:Blk w g t (List.toArray (v0::v1::v2::v3::v4::l))):w.cell? ⟨g,0,none⟩=some v0/\w.cell? ⟨g,1,none⟩=some v1/\w.cell? ⟨g,2,none⟩=some v2/\w.cell? ⟨g,3,none⟩=some v3/\w.cell? ⟨g,4,none⟩=some v4:=⟨h.cell 0,h.cell 1,h.cell 2,h.cell 3,h.cell 4⟩
theorem zae {w:World} {g:Nat} {t:TypeId} {v0 v1 v2 v3 v4 v5 v6 v7 v8 v9 v10:Value} {l:List Value} (h:Blk w g t (List.toArray (v0::v1::v2::v3::v4::v5::v6::v7::v8::v9::v10::l))):w.cell? ⟨g,0,none⟩=some v0/\w.cell? ⟨g,1,none⟩=some v1/\w.cell? ⟨g,2,none⟩=some v2/\w.cell? ⟨g,3,none⟩=some v3/\w.cell? ⟨g,4,none⟩=some v4/\w.cell? ⟨g,5,none⟩=some v5/\w.cell? ⟨g,6,none⟩=some v6/\w.cell? ⟨g,7,none⟩=some v7/\w.cell? ⟨g,8,none⟩=some v8/\w.cell? ⟨g,9,none⟩=some v9/\w.cell? ⟨g,10,none⟩=some v10:=⟨h.cell 0,h.cell 1,h.cell 2,h.cell 3,h.cell 4,h.cell 5,h.cell 6,h.cell 7,h.cell 8,h.cell 9,h.cell 10⟩
theorem zaf {w:World} {g:Nat} {t:TypeId} {v0 v1 v2 v3 v4 v5 v6 v7 v8 v9 v10 v11:Value} {l:List Value} (h:Blk w g t (List.toArray (v0::v1::v2::v3::v4::v5::v6::v7::v8::v9::v10::v11::l))):w.cell? ⟨g,0,none⟩=some v0/\w.cell? ⟨g,1,none⟩=some v1/\w.cell? ⟨g,2,none⟩=some v2/\w.cell? ⟨g,3,none⟩=some v3/\w.cell? ⟨g,4,none⟩=some v4/\w.cell? ⟨g,5,none⟩=some v5/\w.cell? ⟨g,6,none⟩=some v6/\w.cell? ⟨g,7,none⟩=some v7/\w.cell? ⟨g,8,none⟩=some v8/\w.cell? ⟨g,9,none⟩=some v9/\w.cell? ⟨g,10,none⟩=some v10/\w.cell? ⟨g,11,none⟩=some v11:=⟨h.cell 0,h.cell 1,h.cell 2,h.cell 3,h.cell 4,h.cell 5,h.cell 6,h.cell 7,h.cell 8,h.cell 9,h.cell 10,h.cell 11⟩
def T12 (a b c:Bool) (d e f g h i j k:Int) (l:Bool):Array Value:=#[.bool a,.bool b,.bool c,.int .i64 d,.int .i64 e,.int .i64 f,.int .i64 g,.int .i64 h,.int .i64 i,.int .i64 j,.int .i64 k,.bool l]
end Go.Proofs.YtoigpackhninoaaGreatDoor
namespace Go.Proofs
open _root_.Go.Proofs.Tryz
open Go.Shelf
theorem fx {α:Type _} {a:Option α} {b c:α} (h:a=some b) (e:b=c):a=some c:=h.trans (congrArg some e)
def Tryz.lays162_ren:Go.Shelf.Ren:=⟨fun| 162=>161| 232=>185| 227=>186| 234=>187| 236=>188| 228=>205| 271=>206| 151=>207| 120=>217| 197=>91| 152=>218| 260=>123| 137=>107| 119=>222| 224=>193| 225=>192| 217=>140| 266=>165|n=>n,fun| 9=>9| 4=>4| 3=>3| 5=>5| 117=>219| 116=>218| 0=>0| 124=>222| 21=>21| 105=>131| 46=>194| 119=>193| 139=>197| 138=>196|n=>n,fun| 3=>1| 4=>2|n=>n⟩
theorem Tryz.lays162:Go.Proofs.Lays.n162 prog lays162_ren:={
 mixed:=by kernel_rfl
 f119:=fx func222 (by kernel_rfl)
 f120:=fx func217 (by kernel_rfl)
 f137:=fx func107 (by kernel_rfl)
 f151:=fx func207 (by kernel_rfl)
 f152:=fx func218 (by kernel_rfl)
 f162:=fx func161 (by kernel_rfl)
 f197:=fx func91 (by kernel_rfl)
 f217:=fx func140 (by kernel_rfl)
 f224:=fx func193 (by kernel_rfl)
 f225:=fx func192 (by kernel_rfl)
 f227:=fx func186 (by kernel_rfl)
 f228:=fx func205 (by kernel_rfl)
 f232:=fx func185 (by kernel_rfl)
 f234:=fx func187 (by kernel_rfl)
 f236:=fx func188 (by kernel_rfl)
 f260:=fx func123 (by kernel_rfl)
 f266:=fx func165 (by kernel_rfl)
 f271:=fx func206 (by kernel_rfl)
 t0:=underlying0
 a0:=isAgg0
 z0:=sizeOf0
 v0:=zeroValue0
 t3:=underlying3
 a3:=isAgg3
 z3:=sizeOf3
 v3:=zeroValue3
 t4:=underlying4
 a4:=isAgg4
 z4:=sizeOf4
 v4:=zeroValue4
 t5:=underlying5
 a5:=isAgg5
 z5:=sizeOf5
 v5:=zeroValue5
 t9:=underlying9
 a9:=isAgg9
 z9:=sizeOf9
 v9:=zeroValue9
 t21:=underlying21
 a21:=isAgg21
 z21:=sizeOf21
 v21:=zeroValue21
 t46:=underlying194
 a46:=isAgg194
 z46:=sizeOf194
 v46:=zeroValue194
 t105:=underlying131
 a105:=isAgg131
 z105:=sizeOf131
 v105:=zeroValue131
 t116:=underlying218
 a116:=isAgg218
 z116:=sizeOf218
 t117:=underlying219
 a117:=isAgg219
 z117:=sizeOf219
 v117:=zeroValue219
 t119:=underlying193
 a119:=isAgg193
 z119:=sizeOf193
 t124:=underlying222
 a124:=isAgg222
 z124:=sizeOf222
 v124:=zeroValue222
 t138:=underlying196
 a138:=isAgg196
 z138:=sizeOf196
 v138:=zeroValue196
 t139:=underlying197
 a139:=isAgg197
 z139:=sizeOf197
 v139:=zeroValue197
 g3:=by kernel_rfl
 g4:=by kernel_rfl}
open Go.RowKit in
theorem Tryz.strings_TrimRight_one (s:ByteArray) (c:UInt8) (hc:c.toNat<128) (w:World) (hs:s.size<=9223372036854775807):
 Calls prog 161 #[.string s,.string ⟨#[c]⟩] w fun e w'=>e=.returned (.string ⟨(Lib.trimRightB s.data.toList c).toArray⟩)/\w'=w:=Any.strings_TrimRight_one lays162 s c hc w hs
def Tryz.lays137_ren:Go.Shelf.Ren:=⟨fun| 137=>107| 217=>140| 266=>165|n=>n,fun| 9=>9| 5=>5| 3=>3|n=>n,fun|n=>n⟩
theorem Tryz.lays137:Go.Proofs.Lays.n137 prog lays137_ren:={
 mixed:=by kernel_rfl
 f137:=fx func107 (by kernel_rfl)
 f217:=fx func140 (by kernel_rfl)
 f266:=fx func165 (by kernel_rfl)
 t3:=underlying3
 a3:=isAgg3
 z3:=sizeOf3
 v3:=zeroValue3
 t5:=underlying5
 a5:=isAgg5
 z5:=sizeOf5
 v5:=zeroValue5
 t9:=underlying9
 a9:=isAgg9
 z9:=sizeOf9
 v9:=zeroValue9}
open Go.RowKit in
theorem Tryz.strings_IndexByte (s:ByteArray) (c:Int) (w:World):
 Calls prog 107 #[.string s,.int .u8 c] w fun e w'=>e=.returned (.int .i64 (Lib.indexByte s.data.toList c.toNat.toUInt8))/\w'=w:=Any.strings_IndexByte lays137 s c w
def Tryz.lays103_ren:Go.Shelf.Ren:=⟨fun| 103=>114| 210=>146| 206=>171|n=>n,fun| 9=>9| 4=>4| 24=>158| 3=>3|n=>n,fun|n=>n⟩
theorem Tryz.lays103:Go.Proofs.Lays.n103 prog lays103_ren:={
 mixed:=by kernel_rfl
 f103:=fx func114 (by kernel_rfl)
 f206:=fx func171 (by kernel_rfl)
 f210:=fx func146 (by kernel_rfl)
 t3:=underlying3
 a3:=isAgg3
 z3:=sizeOf3
 v3:=zeroValue3
 t4:=underlying4
 a4:=isAgg4
 z4:=sizeOf4
 v4:=zeroValue4
 t9:=underlying9
 a9:=isAgg9
 z9:=sizeOf9
 v9:=zeroValue9
 t24:=underlying158
 a24:=isAgg158
 z24:=sizeOf158
 v24:=zeroValue158}
open Go.RowKit in
theorem Tryz.strings_CutPrefix (s p:ByteArray) (w:World):
 Calls prog 114 #[.string s,.string p] w fun e w'=>e=.returned (.tuple #[.string ⟨(Lib.trimPrefix s.data.toList p.data.toList).toArray⟩,.bool (Lib.hasPrefix s.data.toList p.data.toList)])/\w'=w:=Any.strings_CutPrefix lays103 s p w
def Tryz.lays129_ren:Go.Shelf.Ren:=⟨fun| 129=>150|n=>n,fun| 53=>72| 3=>3| 4=>4| 46=>194| 5=>5| 9=>9|n=>n,fun|n=>n⟩
theorem Tryz.lays129:Go.Proofs.Lays.n129 prog lays129_ren:={
 mixed:=by kernel_rfl
 f129:=fx func150 (by kernel_rfl)
 t3:=underlying3
 a3:=isAgg3
 z3:=sizeOf3
 v3:=zeroValue3
 t4:=underlying4
 a4:=isAgg4
 z4:=sizeOf4
 v4:=zeroValue4
 t5:=underlying5
 a5:=isAgg5
 z5:=sizeOf5
 v5:=zeroValue5
 t9:=underlying9
 a9:=isAgg9
 z9:=sizeOf9
 v9:=zeroValue9
 t46:=underlying194
 a46:=isAgg194
 z46:=sizeOf194
 v46:=zeroValue194
 t53:=underlying72
 a53:=isAgg72
 z53:=sizeOf72
 v53:=zeroValue72}
theorem Tryz.bits_Len64 (x:Int) (w:World) (h0:0<=x) (h1:x<=18446744073709551615):
 Calls prog 150 #[.int .u64 x] w fun e w'=>e=.returned (.int .i64 (Lib.bitLen x.toNat))/\w'=w:=Any.bits_Len64 lays129 x w h0 h1
def Tryz.lays283_ren:Go.Shelf.Ren:=⟨fun| 283=>195|n=>n,fun| 3=>3| 9=>9| 4=>4|n=>n,fun|n=>n⟩
theorem Tryz.lays283:Go.Proofs.Lays.n283 prog lays283_ren:={
 mixed:=by kernel_rfl
 f283:=fx func195 (by kernel_rfl)
 t3:=underlying3
 a3:=isAgg3
 z3:=sizeOf3
 v3:=zeroValue3
 t4:=underlying4
 a4:=isAgg4
 z4:=sizeOf4
 v4:=zeroValue4
 t9:=underlying9
 a9:=isAgg9
 z9:=sizeOf9
 v9:=zeroValue9}
open Go.Lib in
theorem Tryz.internal_strconv_small (i:Nat) (h:i<100) (w:World):
 Calls prog 195 #[.int .i64 i] w fun e w'=>e=.returned (.string ⟨(Lib.decDigits i).toArray⟩)/\w'=w:=Any.internal_strconv_small lays283 i h w
def Tryz.laysM284_ren:Go.Shelf.Ren:=⟨fun| 284=>196| 129=>150| 317=>209| 318=>210|n=>n,fun| 53=>72| 3=>3| 212=>249| 0=>0| 4=>4| 46=>194| 5=>5| 9=>9|n=>n,fun| 17=>7|n=>n⟩
theorem Tryz.laysM284:Go.Proofs.LaysM.n284 prog laysM284_ren:={
 mixed:=by kernel_rfl
 f129:=fx func150 (by kernel_rfl)
 f284:=fx func196 (by kernel_rfl)
 f317:=fx func209 (by kernel_rfl)
 f318:=fx func210 (by kernel_rfl)
 t0:=underlying0
 a0:=isAgg0
 z0:=sizeOf0
 v0:=zeroValue0
 t3:=underlying3
 a3:=isAgg3
 z3:=sizeOf3
 v3:=zeroValue3
 t4:=underlying4
 a4:=isAgg4
 z4:=sizeOf4
 v4:=zeroValue4
 t5:=underlying5
 a5:=isAgg5
 z5:=sizeOf5
 v5:=zeroValue5
 t9:=underlying9
 a9:=isAgg9
 z9:=sizeOf9
 v9:=zeroValue9
 t46:=underlying194
 a46:=isAgg194
 z46:=sizeOf194
 v46:=zeroValue194
 t53:=underlying72
 a53:=isAgg72
 z53:=sizeOf72
 v53:=zeroValue72
 t212:=underlying249
 a212:=isAgg249
 z212:=sizeOf249
 v212:=zeroValue249
 g17:=by kernel_rfl
 i0:=by kernel_rfl
 i3:=by kernel_rfl
 i4:=by kernel_rfl
 i5:=by kernel_rfl
 i9:=by kernel_rfl
 i46:=by kernel_rfl
 i53:=by kernel_rfl
 i212:=by kernel_rfl
 m17:=by kernel_rfl}
open Go.Lib in
theorem Tryz.internal_strconv_numDigits (u:Nat) (h1:1<=u) (h2:u<18446744073709551616) (w:World) (htab:Lib.TabIs prog w "internal/strconv.uint64pow10" .u64 Lib.pow10Tab):
 Calls prog 196 #[.int .u64 u] w fun e w'=>e=.returned (.int .i64 (Lib.nDigits u))/\w'=w:=Any.internal_strconv_numDigits laysM284 u h1 h2 w htab
def Tryz.lays285_ren:Go.Shelf.Ren:=⟨fun| 285=>197|n=>n,fun| 37=>119| 53=>72| 3=>3| 4=>4| 51=>245| 9=>9| 5=>5| 0=>0|n=>n,fun|n=>n⟩
theorem Tryz.lays285:Go.Proofs.Lays.n285 prog lays285_ren:={
 mixed:=by kernel_rfl
 f285:=fx func197 (by kernel_rfl)
 t0:=underlying0
 a0:=isAgg0
 z0:=sizeOf0
 v0:=zeroValue0
 t3:=underlying3
 a3:=isAgg3
 z3:=sizeOf3
 v3:=zeroValue3
 t4:=underlying4
 a4:=isAgg4
 z4:=sizeOf4
 v4:=zeroValue4
 t5:=underlying5
 a5:=isAgg5
 z5:=sizeOf5
 v5:=zeroValue5
 t9:=underlying9
 a9:=isAgg9
 z9:=sizeOf9
 v9:=zeroValue9
 t37:=underlying119
 a37:=isAgg119
 z37:=sizeOf119
 v37:=zeroValue119
 t51:=underlying245
 a51:=isAgg245
 z51:=sizeOf245
 v51:=zeroValue245
 t53:=underlying72
 a53:=isAgg72
 z53:=sizeOf72
 v53:=zeroValue72}
open Go.RowKit Go.Sort Go.Lib in
theorem Tryz.internal_strconv_formatBase10 (blk off cap:Nat) (u:Nat) (d:Array UInt8) (w:World) (hH:Holds (fun(b:UInt8)=>Value.int .u8 (b.toNat:Int)) w blk off d) (hu:u<10 ^ d.size) (hu64:u<18446744073709551616) (hsz:d.size<4611686018427387904):
 Calls prog 197 #[.slice (some ⟨blk,off,none⟩) d.size cap,.int .u64 u] w fun e w'=>
  e=.returned (.tuple #[])/\∃(n v':Nat) (dk:Array UInt8),w'=(putRow (fun(b:UInt8)=>Value.int .u8 (b.toNat:Int)) w blk off dk).drewN n/\FmtInv d.size u 0 v' dk:=Any.internal_strconv_formatBase10 lays285 blk off cap u d w hH hu hu64 hsz
def Tryz.laysM171_ren:Go.Shelf.Ren:=⟨fun| 171=>145| 243=>174| 246=>191| 283=>195| 284=>196| 285=>197| 286=>198| 129=>150| 317=>209| 318=>210| 319=>211| 320=>212| 337=>219| 338=>181|n=>n,fun| 3=>3| 9=>9| 2=>2| 4=>4| 171=>229| 0=>0| 53=>72| 37=>119| 5=>5| 173=>231| 212=>249| 51=>245| 20=>20| 213=>250| 46=>194| 232=>261| 233=>228|n=>n,fun| 17=>7| 18=>8| 19=>6|n=>n⟩
theorem Tryz.laysM171:Go.Proofs.LaysM.n171 prog laysM171_ren:={
 mixed:=by kernel_rfl
 f129:=fx func150 (by kernel_rfl)
 f171:=fx func145 (by kernel_rfl)
 f243:=fx func174 (by kernel_rfl)
 f246:=fx func191 (by kernel_rfl)
 f283:=fx func195 (by kernel_rfl)
 f284:=fx func196 (by kernel_rfl)
 f285:=fx func197 (by kernel_rfl)
 f286:=fx func198 (by kernel_rfl)
 f317:=fx func209 (by kernel_rfl)
 f318:=fx func210 (by kernel_rfl)
 f319:=fx func211 (by kernel_rfl)
 f320:=fx func212 (by kernel_rfl)
 f337:=fx func219 (by kernel_rfl)
 f338:=fx func181 (by kernel_rfl)
 t0:=underlying0
 a0:=isAgg0
 z0:=sizeOf0
 v0:=zeroValue0
 t2:=underlying2
 a2:=isAgg2
 z2:=sizeOf2
 v2:=zeroValue2
 t3:=underlying3
 a3:=isAgg3
 z3:=sizeOf3
 v3:=zeroValue3
 t4:=underlying4
 a4:=isAgg4
 z4:=sizeOf4
 v4:=zeroValue4
 t5:=underlying5
 a5:=isAgg5
 z5:=sizeOf5
 v5:=zeroValue5
 t9:=underlying9
 a9:=isAgg9
 z9:=sizeOf9
 v9:=zeroValue9
 t20:=underlying20
 a20:=isAgg20
 z20:=sizeOf20
 v20:=zeroValue20
 t37:=underlying119
 a37:=isAgg119
 z37:=sizeOf119
 v37:=zeroValue119
 t46:=underlying194
 a46:=isAgg194
 z46:=sizeOf194
 v46:=zeroValue194
 t51:=underlying245
 a51:=isAgg245
 z51:=sizeOf245
 v51:=zeroValue245
 t53:=underlying72
 a53:=isAgg72
 z53:=sizeOf72
 v53:=zeroValue72
 t171:=underlying229
 a171:=isAgg229
 z171:=sizeOf229
 v171:=zeroValue229
 t173:=underlying231
 a173:=isAgg231
 z173:=sizeOf231
 v173:=zeroValue231
 t212:=underlying249
 a212:=isAgg249
 z212:=sizeOf249
 v212:=zeroValue249
 t213:=underlying250
 a213:=isAgg250
 z213:=sizeOf250
 t232:=underlying261
 a232:=isAgg261
 z232:=sizeOf261
 v232:=zeroValue261
 t233:=underlying228
 a233:=isAgg228
 z233:=sizeOf228
 v233:=zeroValue228
 g17:=by kernel_rfl
 g18:=by kernel_rfl
 g19:=by kernel_rfl
 i0:=by kernel_rfl
 i2:=by kernel_rfl
 i3:=by kernel_rfl
 i4:=by kernel_rfl
 i5:=by kernel_rfl
 i9:=by kernel_rfl
 i20:=by kernel_rfl
 i37:=by kernel_rfl
 i46:=by kernel_rfl
 i51:=by kernel_rfl
 i53:=by kernel_rfl
 i171:=by kernel_rfl
 i173:=by kernel_rfl
 i212:=by kernel_rfl
 i232:=by kernel_rfl
 i233:=by kernel_rfl
 m17:=by kernel_rfl
 m18:=by kernel_rfl
 m19:=by kernel_rfl}
open Go.RowKit Go.Sort Go.Lib in
theorem Tryz.strconv_Itoa (n:Int) (h0:-9223372036854775808<=n) (h1:n<=9223372036854775807) (w:World) (htab:Lib.TabIs prog w "internal/strconv.uint64pow10" .u64 Lib.pow10Tab):
 Calls prog 145 #[.int .i64 n] w fun e w'=>e=.returned (.string ⟨(Lib.itoa n).toArray⟩)/\∃k os,w'=grow (w.drewN k) os:=Any.strconv_Itoa laysM171 n h0 h1 w htab
def Tryz.laysC172_ren:Go.Shelf.Ren:=⟨fun| 172=>108| 244=>141| 245=>142| 247=>166| 279=>167| 280=>168| 281=>169| 282=>170| 287=>149| 316=>189| 171=>145| 205=>190| 321=>176| 322=>177| 243=>174| 246=>191| 283=>195| 284=>196| 285=>197| 286=>198| 129=>150| 317=>209| 318=>210| 319=>211| 320=>212| 337=>219| 338=>181|n=>n,fun| 9=>9| 3=>3| 75=>150| 76=>151| 4=>4| 5=>5| 167=>202| 37=>119| 0=>0| 85=>203| 2=>2| 168=>205| 53=>72| 175=>164| 46=>194| 210=>225| 127=>241| 145=>244| 143=>242| 21=>21| 171=>229| 173=>231| 212=>249| 51=>245| 20=>20| 213=>250| 232=>261| 233=>228| 80=>157|n=>n,fun| 15=>4| 16=>5| 17=>7| 18=>8| 19=>6|n=>n⟩
theorem Tryz.laysC172:Go.Proofs.LaysC.n172 prog laysC172_ren:={
 mixed:=by kernel_rfl
 f129:=fx func150 (by kernel_rfl)
 f171:=fx func145 (by kernel_rfl)
 f172:=fx func108 (by kernel_rfl)
 f205:=fx func190 (by kernel_rfl)
 f243:=fx func174 (by kernel_rfl)
 f244:=fx func141 (by kernel_rfl)
 f245:=fx func142 (by kernel_rfl)
 f246:=fx func191 (by kernel_rfl)
 f247:=fx func166 (by kernel_rfl)
 f279:=fx func167 (by kernel_rfl)
 f280:=fx func168 (by kernel_rfl)
 f281:=fx func169 (by kernel_rfl)
 f282:=fx func170 (by kernel_rfl)
 f283:=fx func195 (by kernel_rfl)
 f284:=fx func196 (by kernel_rfl)
 f285:=fx func197 (by kernel_rfl)
 f286:=fx func198 (by kernel_rfl)
 f287:=fx func149 (by kernel_rfl)
 f316:=fx func189 (by kernel_rfl)
 f317:=fx func209 (by kernel_rfl)
 f318:=fx func210 (by kernel_rfl)
 f319:=fx func211 (by kernel_rfl)
 f320:=fx func212 (by kernel_rfl)
 f321:=fx func176 (by kernel_rfl)
 f322:=fx func177 (by kernel_rfl)
 f337:=fx func219 (by kernel_rfl)
 f338:=fx func181 (by kernel_rfl)
 t0:=underlying0
 a0:=isAgg0
 z0:=sizeOf0
 v0:=zeroValue0
 t2:=underlying2
 a2:=isAgg2
 z2:=sizeOf2
 v2:=zeroValue2
 t3:=underlying3
 a3:=isAgg3
 z3:=sizeOf3
 v3:=zeroValue3
 t4:=underlying4
 a4:=isAgg4
 z4:=sizeOf4
 v4:=zeroValue4
 t5:=underlying5
 a5:=isAgg5
 z5:=sizeOf5
 v5:=zeroValue5
 t9:=underlying9
 a9:=isAgg9
 z9:=sizeOf9
 v9:=zeroValue9
 t20:=underlying20
 a20:=isAgg20
 z20:=sizeOf20
 v20:=zeroValue20
 t21:=underlying21
 a21:=isAgg21
 z21:=sizeOf21
 v21:=zeroValue21
 t37:=underlying119
 a37:=isAgg119
 z37:=sizeOf119
 v37:=zeroValue119
 t46:=underlying194
 a46:=isAgg194
 z46:=sizeOf194
 v46:=zeroValue194
 t51:=underlying245
 a51:=isAgg245
 z51:=sizeOf245
 v51:=zeroValue245
 t53:=underlying72
 a53:=isAgg72
 z53:=sizeOf72
 v53:=zeroValue72
 t75:=underlying150
 a75:=isAgg150
 z75:=sizeOf150
 v75:=zeroValue150
 t76:=underlying151
 a76:=isAgg151
 z76:=sizeOf151
 v76:=zeroValue151
 t85:=underlying203
 a85:=isAgg203
 z85:=sizeOf203
 v85:=zeroValue203
 t127:=underlying241
 a127:=isAgg241
 z127:=sizeOf241
 v127:=zeroValue241
 t143:=underlying242
 a143:=isAgg242
 z143:=sizeOf242
 v143:=zeroValue242
 t145:=underlying244
 a145:=isAgg244
 z145:=sizeOf244
 v145:=zeroValue244
 t167:=underlying202
 a167:=isAgg202
 z167:=sizeOf202
 v167:=zeroValue202
 t168:=underlying205
 a168:=isAgg205
 z168:=sizeOf205
 v168:=zeroValue205
 t171:=underlying229
 a171:=isAgg229
 z171:=sizeOf229
 v171:=zeroValue229
 t173:=underlying231
 a173:=isAgg231
 z173:=sizeOf231
 v173:=zeroValue231
 t175:=underlying164
 a175:=isAgg164
 z175:=sizeOf164
 v175:=zeroValue164
 t210:=underlying225
 a210:=isAgg225
 z210:=sizeOf225
 v210:=zeroValue225
 t212:=underlying249
 a212:=isAgg249
 z212:=sizeOf249
 v212:=zeroValue249
 t213:=underlying250
 a213:=isAgg250
 z213:=sizeOf250
 t232:=underlying261
 a232:=isAgg261
 z232:=sizeOf261
 v232:=zeroValue261
 t233:=underlying228
 a233:=isAgg228
 z233:=sizeOf228
 v233:=zeroValue228
 g15:=by kernel_rfl
 g16:=by kernel_rfl
 g17:=by kernel_rfl
 g18:=by kernel_rfl
 g19:=by kernel_rfl
 t80:=underlying157
 a80:=isAgg157
 z80:=sizeOf157
 v80:=zeroValue157
 i0:=by kernel_rfl
 i2:=by kernel_rfl
 i3:=by kernel_rfl
 i4:=by kernel_rfl
 i5:=by kernel_rfl
 i9:=by kernel_rfl
 i20:=by kernel_rfl
 i21:=by kernel_rfl
 i37:=by kernel_rfl
 i46:=by kernel_rfl
 i51:=by kernel_rfl
 i53:=by kernel_rfl
 i75:=by kernel_rfl
 i76:=by kernel_rfl
 i80:=by kernel_rfl
 i85:=by kernel_rfl
 i127:=by kernel_rfl
 i143:=by kernel_rfl
 i145:=by kernel_rfl
 i167:=by kernel_rfl
 i168:=by kernel_rfl
 i171:=by kernel_rfl
 i173:=by kernel_rfl
 i175:=by kernel_rfl
 i210:=by kernel_rfl
 i212:=by kernel_rfl
 i232:=by kernel_rfl
 i233:=by kernel_rfl
 m15:=by kernel_rfl
 m16:=by kernel_rfl
 m17:=by kernel_rfl
 m18:=by kernel_rfl
 m19:=by kernel_rfl
 c0:=by kernel_rfl
 c2:=by kernel_rfl
 c3:=by kernel_rfl
 c4:=by kernel_rfl
 c5:=by kernel_rfl
 c9:=by kernel_rfl
 c20:=by kernel_rfl
 c21:=by kernel_rfl
 c37:=by kernel_rfl
 c46:=by kernel_rfl
 c51:=by kernel_rfl
 c53:=by kernel_rfl
 c75:=by kernel_rfl
 c76:=by kernel_rfl
 c80:=by kernel_rfl
 c85:=by kernel_rfl
 c127:=by kernel_rfl
 c143:=by kernel_rfl
 c145:=by kernel_rfl
 c167:=by kernel_rfl
 c168:=by kernel_rfl
 c171:=by kernel_rfl
 c173:=by kernel_rfl
 c175:=by kernel_rfl
 c210:=by kernel_rfl
 c212:=by kernel_rfl
 c213:=by kernel_rfl
 c232:=by kernel_rfl
 c233:=by kernel_rfl}
def Tryz.badI:Lib.NumEnd Int:=Lib.atoiAll []
def Tryz.badN:Lib.NumEnd Nat:=Lib.parseUintB 64 []
open Go.RowKit in
theorem Tryz.strconv_Atoi_ok (s:ByteArray) (hmax:s.size<=9223372036854775806) (v:Int) (h:Lib.atoiAll s.data.toList=.ok v) (w:World):
 Calls prog 108 #[.string s] w fun e w'=>e=.returned (.tuple #[.int .i64 v,.nilIface])/\(w'=w\/∃t,w'=Lib.bytesWorld w 5 t):=Any.strconv_Atoi_ok laysC172 s hmax v h w
open Go.RowKit in
theorem Tryz.strconv_Atoi_syntax (s:ByteArray) (hlim:s.size<=281474976710656) (h:Lib.atoiAll s.data.toList=badI) (ev:Value) (w:World) (hv:w.cell? ⟨4,0,none⟩=some ev) (hev:ev=.nilIface\/∃te pe,ev=.iface te pe):
 Calls prog 108 #[.string s] w fun e w'=>∃N,e=.returned (.tuple #[.int .i64 (0),.iface 205 (.pointer (some ⟨N,0,none⟩))])/\w.heap.size<=N/\w'.heap[N]? =some (.cells #[.string ⟨#[65,116,111,105]⟩,.string s,ev] 225 (0,0))/\Below w.heap.size w w':=Any.strconv_Atoi_syntax laysC172 s hlim h ev w hv hev
open Go.RowKit in
theorem Tryz.strconv_Atoi_range (s:ByteArray) (hlim:s.size<=281474976710656) (h:Lib.atoiAll s.data.toList=.range) (ev:Value) (w:World) (hv:w.cell? ⟨5,0,none⟩=some ev) (hev:ev=.nilIface\/∃te pe,ev=.iface te pe):
 Calls prog 108 #[.string s] w fun e w'=>∃N,e=.returned (.tuple #[.int .i64 (Lib.atoiSat s.data.toList),.iface 205 (.pointer (some ⟨N,0,none⟩))])/\w.heap.size<=N/\w'.heap[N]? =some (.cells #[.string ⟨#[65,116,111,105]⟩,.string s,ev] 225 (0,0))/\Below w.heap.size w w':=Any.strconv_Atoi_range laysC172 s hlim h ev w hv hev
def Tryz.laysPu14_ren:Go.Shelf.Ren:=⟨fun| 14=>118| 16=>149| 17=>142| 19=>176| 20=>177| 21=>167| 22=>168| 23=>169| 24=>170| 25=>189| 27=>145| 26=>190| 28=>174| 29=>191| 30=>195| 31=>196| 32=>197| 33=>198| 35=>150| 34=>209| 36=>210| 37=>211| 38=>212| 39=>219| 40=>181|n=>n,fun| 9=>9| 3=>3| 22=>72| 24=>150| 25=>164| 4=>4| 34=>202| 5=>5| 36=>194| 37=>119| 0=>0| 39=>205| 21=>21| 44=>225| 47=>241| 50=>244| 48=>242| 2=>2| 52=>229| 55=>231| 59=>249| 60=>245| 20=>20| 61=>250| 65=>261| 66=>228| 67=>157|n=>n,fun| 0=>4| 1=>5| 2=>7| 3=>8| 4=>6|n=>n⟩
theorem Tryz.laysPu14:Go.Proofs.LaysPu.n14 prog laysPu14_ren:={
 mixed:=by kernel_rfl
 f14:=fx func118 (by kernel_rfl)
 f16:=fx func149 (by kernel_rfl)
 f17:=fx func142 (by kernel_rfl)
 f19:=fx func176 (by kernel_rfl)
 f20:=fx func177 (by kernel_rfl)
 f21:=fx func167 (by kernel_rfl)
 f22:=fx func168 (by kernel_rfl)
 f23:=fx func169 (by kernel_rfl)
 f24:=fx func170 (by kernel_rfl)
 f25:=fx func189 (by kernel_rfl)
 f26:=fx func190 (by kernel_rfl)
 f27:=fx func145 (by kernel_rfl)
 f28:=fx func174 (by kernel_rfl)
 f29:=fx func191 (by kernel_rfl)
 f30:=fx func195 (by kernel_rfl)
 f31:=fx func196 (by kernel_rfl)
 f32:=fx func197 (by kernel_rfl)
 f33:=fx func198 (by kernel_rfl)
 f34:=fx func209 (by kernel_rfl)
 f35:=fx func150 (by kernel_rfl)
 f36:=fx func210 (by kernel_rfl)
 f37:=fx func211 (by kernel_rfl)
 f38:=fx func212 (by kernel_rfl)
 f39:=fx func219 (by kernel_rfl)
 f40:=fx func181 (by kernel_rfl)
 t0:=underlying0
 a0:=isAgg0
 z0:=sizeOf0
 v0:=zeroValue0
 i0:=by kernel_rfl
 t2:=underlying2
 a2:=isAgg2
 z2:=sizeOf2
 v2:=zeroValue2
 i2:=by kernel_rfl
 t3:=underlying3
 a3:=isAgg3
 z3:=sizeOf3
 v3:=zeroValue3
 i3:=by kernel_rfl
 t4:=underlying4
 a4:=isAgg4
 z4:=sizeOf4
 v4:=zeroValue4
 i4:=by kernel_rfl
 t5:=underlying5
 a5:=isAgg5
 z5:=sizeOf5
 v5:=zeroValue5
 i5:=by kernel_rfl
 t9:=underlying9
 a9:=isAgg9
 z9:=sizeOf9
 v9:=zeroValue9
 i9:=by kernel_rfl
 t20:=underlying20
 a20:=isAgg20
 z20:=sizeOf20
 v20:=zeroValue20
 i20:=by kernel_rfl
 t21:=underlying21
 a21:=isAgg21
 z21:=sizeOf21
 v21:=zeroValue21
 i21:=by kernel_rfl
 t22:=underlying72
 a22:=isAgg72
 z22:=sizeOf72
 v22:=zeroValue72
 i22:=by kernel_rfl
 t24:=underlying150
 a24:=isAgg150
 z24:=sizeOf150
 v24:=zeroValue150
 i24:=by kernel_rfl
 t25:=underlying164
 a25:=isAgg164
 z25:=sizeOf164
 v25:=zeroValue164
 i25:=by kernel_rfl
 t34:=underlying202
 a34:=isAgg202
 z34:=sizeOf202
 v34:=zeroValue202
 i34:=by kernel_rfl
 c34:=by kernel_rfl
 t36:=underlying194
 a36:=isAgg194
 z36:=sizeOf194
 v36:=zeroValue194
 i36:=by kernel_rfl
 t37:=underlying119
 a37:=isAgg119
 z37:=sizeOf119
 v37:=zeroValue119
 i37:=by kernel_rfl
 t39:=underlying205
 a39:=isAgg205
 z39:=sizeOf205
 v39:=zeroValue205
 i39:=by kernel_rfl
 t44:=underlying225
 a44:=isAgg225
 z44:=sizeOf225
 v44:=zeroValue225
 i44:=by kernel_rfl
 t47:=underlying241
 a47:=isAgg241
 z47:=sizeOf241
 v47:=zeroValue241
 i47:=by kernel_rfl
 t48:=underlying242
 a48:=isAgg242
 z48:=sizeOf242
 v48:=zeroValue242
 i48:=by kernel_rfl
 t50:=underlying244
 a50:=isAgg244
 z50:=sizeOf244
 v50:=zeroValue244
 i50:=by kernel_rfl
 t52:=underlying229
 a52:=isAgg229
 z52:=sizeOf229
 v52:=zeroValue229
 i52:=by kernel_rfl
 t55:=underlying231
 a55:=isAgg231
 z55:=sizeOf231
 v55:=zeroValue231
 i55:=by kernel_rfl
 t59:=underlying249
 a59:=isAgg249
 z59:=sizeOf249
 v59:=zeroValue249
 i59:=by kernel_rfl
 t60:=underlying245
 a60:=isAgg245
 z60:=sizeOf245
 v60:=zeroValue245
 i60:=by kernel_rfl
 t61:=underlying250
 a61:=isAgg250
 z61:=sizeOf250
 t65:=underlying261
 a65:=isAgg261
 z65:=sizeOf261
 v65:=zeroValue261
 i65:=by kernel_rfl
 t66:=underlying228
 a66:=isAgg228
 z66:=sizeOf228
 v66:=zeroValue228
 i66:=by kernel_rfl
 t67:=underlying157
 a67:=isAgg157
 z67:=sizeOf157
 v67:=zeroValue157
 i67:=by kernel_rfl
 g0:=by kernel_rfl
 m0:=by kernel_rfl
 g1:=by kernel_rfl
 m1:=by kernel_rfl
 g2:=by kernel_rfl
 m2:=by kernel_rfl
 g3:=by kernel_rfl
 m3:=by kernel_rfl
 g4:=by kernel_rfl
 m4:=by kernel_rfl}
open Go.RowKit in
theorem Tryz.strconv_ParseUint_10_at64_ok (s:ByteArray) (hmax:s.size<=9223372036854775806) (u:Nat) (h:Lib.parseUintB 64 s.data.toList=.ok u) (w:World):
 Calls prog 118 #[.string s,.int .i64 10,.int .i64 64] w fun e w'=>e=.returned (.tuple #[.int .u64 u,.nilIface])/\(w'=w\/w'=Lib.bytesWorld w 5 s):=Any.strconv_ParseUint_10_at64_ok laysPu14 s hmax u h w
open Go.RowKit in
theorem Tryz.strconv_ParseUint_10_at64_syntax (s:ByteArray) (hlim:s.size<=281474976710656) (h:Lib.parseUintB 64 s.data.toList=badN) (ev:Value) (w:World) (hv:w.cell? ⟨4,0,none⟩=some ev) (hev:ev=.nilIface\/∃te pe,ev=.iface te pe):
 Calls prog 118 #[.string s,.int .i64 10,.int .i64 64] w fun e w'=>∃N,e=.returned (.tuple #[.int .u64 0,.iface 205 (.pointer (some ⟨N,0,none⟩))])/\w.heap.size<=N/\w'.heap[N]? =some (.cells #[.string ⟨#[80,97,114,115,101,85,105,110,116]⟩,.string s,ev] 225 (0,0))/\Below w.heap.size w w':=Any.strconv_ParseUint_10_at64_syntax laysPu14 s hlim h ev w hv hev
open Go.RowKit in
theorem Tryz.strconv_ParseUint_10_at64_range (s:ByteArray) (hlim:s.size<=281474976710656) (h:Lib.parseUintB 64 s.data.toList=.range) (ev:Value) (w:World) (hv:w.cell? ⟨5,0,none⟩=some ev) (hev:ev=.nilIface\/∃te pe,ev=.iface te pe):
 Calls prog 118 #[.string s,.int .i64 10,.int .i64 64] w fun e w'=>∃N,e=.returned (.tuple #[.int .u64 18446744073709551615,.iface 205 (.pointer (some ⟨N,0,none⟩))])/\w.heap.size<=N/\w'.heap[N]? =some (.cells #[.string ⟨#[80,97,114,115,101,85,105,110,116]⟩,.string s,ev] 225 (0,0))/\Below w.heap.size w w':=Any.strconv_ParseUint_10_at64_range laysPu14 s hlim h ev w hv hev
def Tryz.lays101_ren:Go.Shelf.Ren:=⟨fun| 101=>109| 208=>143| 206=>171|n=>n,fun| 9=>9| 4=>4| 3=>3|n=>n,fun|n=>n⟩
theorem Tryz.lays101:Go.Proofs.Lays.n101 prog lays101_ren:={
 mixed:=by kernel_rfl
 f101:=fx func109 (by kernel_rfl)
 f206:=fx func171 (by kernel_rfl)
 f208:=fx func143 (by kernel_rfl)
 t3:=underlying3
 a3:=isAgg3
 z3:=sizeOf3
 v3:=zeroValue3
 t4:=underlying4
 a4:=isAgg4
 z4:=sizeOf4
 v4:=zeroValue4
 t9:=underlying9
 a9:=isAgg9
 z9:=sizeOf9
 v9:=zeroValue9}
open Go.RowKit Go.Lib in
theorem Tryz.strings_TrimPrefix (s p:ByteArray) (w:World):
 Calls prog 109 #[.string s,.string p] w fun e w'=>e=.returned (.string ⟨(Lib.trimPrefix s.data.toList p.data.toList).toArray⟩)/\w'=w:=Any.strings_TrimPrefix lays101 s p w
def Tryz.lays105_ren:Go.Shelf.Ren:=⟨fun| 105=>184| 212=>199| 99=>200| 165=>201| 166=>202| 170=>203| 169=>204| 263=>213| 264=>214| 206=>171| 240=>215| 241=>216| 276=>220| 277=>221|n=>n,fun| 9=>9| 3=>3| 4=>4| 20=>20| 0=>0| 46=>194| 109=>233| 5=>5| 72=>237| 76=>151| 51=>245| 146=>246| 53=>72| 148=>253| 70=>235| 37=>119| 75=>150| 127=>241| 164=>257| 80=>157|n=>n,fun|n=>n⟩
theorem Tryz.lays105:Go.Proofs.Lays.n105 prog lays105_ren:={
 mixed:=by kernel_rfl
 f99:=fx func200 (by kernel_rfl)
 f105:=fx func184 (by kernel_rfl)
 f165:=fx func201 (by kernel_rfl)
 f166:=fx func202 (by kernel_rfl)
 f169:=fx func204 (by kernel_rfl)
 f170:=fx func203 (by kernel_rfl)
 f206:=fx func171 (by kernel_rfl)
 f212:=fx func199 (by kernel_rfl)
 f240:=fx func215 (by kernel_rfl)
 f241:=fx func216 (by kernel_rfl)
 f263:=fx func213 (by kernel_rfl)
 f264:=fx func214 (by kernel_rfl)
 f276:=fx func220 (by kernel_rfl)
 f277:=fx func221 (by kernel_rfl)
 t0:=underlying0
 a0:=isAgg0
 z0:=sizeOf0
 v0:=zeroValue0
 t3:=underlying3
 a3:=isAgg3
 z3:=sizeOf3
 v3:=zeroValue3
 t4:=underlying4
 a4:=isAgg4
 z4:=sizeOf4
 v4:=zeroValue4
 t5:=underlying5
 a5:=isAgg5
 z5:=sizeOf5
 v5:=zeroValue5
 t9:=underlying9
 a9:=isAgg9
 z9:=sizeOf9
 v9:=zeroValue9
 t20:=underlying20
 a20:=isAgg20
 z20:=sizeOf20
 v20:=zeroValue20
 t37:=underlying119
 a37:=isAgg119
 z37:=sizeOf119
 v37:=zeroValue119
 t46:=underlying194
 a46:=isAgg194
 z46:=sizeOf194
 v46:=zeroValue194
 t51:=underlying245
 a51:=isAgg245
 z51:=sizeOf245
 v51:=zeroValue245
 t53:=underlying72
 a53:=isAgg72
 z53:=sizeOf72
 v53:=zeroValue72
 t70:=underlying235
 a70:=isAgg235
 z70:=sizeOf235
 v70:=zeroValue235
 t72:=underlying237
 a72:=isAgg237
 z72:=sizeOf237
 v72:=zeroValue237
 t75:=underlying150
 a75:=isAgg150
 z75:=sizeOf150
 v75:=zeroValue150
 t76:=underlying151
 a76:=isAgg151
 z76:=sizeOf151
 v76:=zeroValue151
 t109:=underlying233
 a109:=isAgg233
 z109:=sizeOf233
 v109:=zeroValue233
 t127:=underlying241
 a127:=isAgg241
 z127:=sizeOf241
 v127:=zeroValue241
 t146:=underlying246
 a146:=isAgg246
 z146:=sizeOf246
 v146:=zeroValue246
 t148:=underlying253
 a148:=isAgg253
 z148:=sizeOf253
 v148:=zeroValue253
 t164:=underlying257
 a164:=isAgg257
 z164:=sizeOf257
 v164:=zeroValue257}
theorem Tryz.Builder_Extra_105:Builder.Extra prog lays105_ren:={
 sizeBuilder:=by kernel_rfl
 liesBuilder:=by kernel_rfl
 t5:=underlying5
 a5:=isAgg5
 z5:=sizeOf5
 v5:=zeroValue5
 infoByte:=by kernel_rfl
 cellsByte:=by kernel_rfl
 sizeByte:=by kernel_rfl
 neB5:=by decide}
open Go.RowKit Go.Lib in
theorem Tryz.strings_Repeat (s:ByteArray) (c:Nat) (w:World) (hc:c<=9223372036854775807) (hlen:s.size*c<=140737488355328):
 Calls prog 184 #[.string s,.int .i64 c] w fun e w'=>e=.returned (.string ⟨(Lib.repeatL s.data.toList c).toArray⟩)/\Below w.heap.size w w':=Any.strings_Repeat lays105 Builder_Extra_105 s c w hc hlen
def Tryz.lays197_ren:Go.Shelf.Ren:=⟨fun| 197=>91| 260=>123|n=>n,fun| 9=>9| 21=>21| 3=>3| 4=>4| 5=>5| 105=>131| 119=>193| 0=>0| 46=>194| 139=>197| 138=>196|n=>n,fun| 3=>1| 4=>2|n=>n⟩
theorem Tryz.lays197:Go.Proofs.Lays.n197 prog lays197_ren:={
 mixed:=by kernel_rfl
 f197:=fx func91 (by kernel_rfl)
 f260:=fx func123 (by kernel_rfl)
 t0:=underlying0
 a0:=isAgg0
 z0:=sizeOf0
 v0:=zeroValue0
 t3:=underlying3
 a3:=isAgg3
 z3:=sizeOf3
 v3:=zeroValue3
 t4:=underlying4
 a4:=isAgg4
 z4:=sizeOf4
 v4:=zeroValue4
 t5:=underlying5
 a5:=isAgg5
 z5:=sizeOf5
 v5:=zeroValue5
 t9:=underlying9
 a9:=isAgg9
 z9:=sizeOf9
 v9:=zeroValue9
 t21:=underlying21
 a21:=isAgg21
 z21:=sizeOf21
 v21:=zeroValue21
 t46:=underlying194
 a46:=isAgg194
 z46:=sizeOf194
 v46:=zeroValue194
 t105:=underlying131
 a105:=isAgg131
 z105:=sizeOf131
 v105:=zeroValue131
 t119:=underlying193
 a119:=isAgg193
 z119:=sizeOf193
 t138:=underlying196
 a138:=isAgg196
 z138:=sizeOf196
 v138:=zeroValue196
 t139:=underlying197
 a139:=isAgg197
 z139:=sizeOf197
 v139:=zeroValue197
 g3:=by kernel_rfl
 g4:=by kernel_rfl}
open Go.RowKit Go.Lib in
theorem Tryz.utf8_DecodeRuneInString (s:ByteArray) (w:World) (hT:Lib.Utf8Tabs 1 2 w):
 Calls prog 91 #[.string s] w fun e w'=>e=.returned (.tuple #[.int .i32 (Lib.decodeGo s).1,.int .i64 (Lib.decodeGo s).2])/\Below w.heap.size w w':=Any.utf8_DecodeRuneInString lays197 s w hT
end Go.Proofs
namespace Go.Proofs.YtoigpackhninoaaGreatDoor
namespace Gr
def dig (c:UInt8):Bool:=48<=c && c<=57
theorem za4 (c:UInt8):dig c=true↔48<=c.toNat/\c.toNat<=57:=by
 unfold dig;rw[Bool.and_eq_true,decide_eq_true_iff,decide_eq_true_iff,UInt8.le_iff_toNat_le,UInt8.le_iff_toNat_le];exact Iff.rfl
def dv (c:UInt8):Nat:=c.toNat-48
def val (l:List UInt8):Nat:=l.foldl (fun n c=>10*n+dv c) 0
theorem zq6:val []=0:=rfl
theorem zba (l:List UInt8) (c:UInt8):val (l++[c])=10*val l+dv c:=by unfold val;rw[List.foldl_append];rfl
theorem foldv (l:List UInt8) (a:Nat):l.foldl (fun n c=>10*n+dv c) a=a*10 ^ l.length+val l:=by
 induction l generalizing a with
 |nil=>simp[val]
 |cons c l ih=>
  unfold val;rw[List.foldl_cons,List.foldl_cons,ih,ih (10*0+dv c),List.length_cons,Nat.pow_succ];rw[Nat.add_mul,Nat.mul_zero,Nat.zero_add,Nat.add_assoc]
  congr 1
  rw[Nat.mul_comm 10 a,Nat.mul_assoc,Nat.mul_comm 10]
theorem zdp (c:UInt8) (l:List UInt8):val (c::l)=dv c*10 ^ l.length+val l:=by
 unfold val;rw[List.foldl_cons,foldv,Nat.mul_zero,Nat.zero_add];rfl
theorem zd9 (l:List UInt8) (h:l.all dig=true):val l<10 ^ l.length:=by
 induction l with
 |nil=>simp[val]
 |cons c l ih=>
  rw[List.all_cons,Bool.and_eq_true,za4]at h;have:=ih h.2;rw[zdp,List.length_cons,Nat.pow_succ];have hd:dv c<=9:=by unfold dv;omega
  have:dv c*10 ^ l.length<=9*10 ^ l.length:=Nat.mul_le_mul_right _ hd;omega
theorem zaq {u:Nat} (h:¬u<10):Lib.decDigits u=Lib.decDigits (u /10)++[UInt8.ofNat (48+u%10)]:=by
 rw[Lib.decDigits,dif_neg h]
theorem zlj (k:Nat) (h:k<10):dig (UInt8.ofNat (48+k))=true:=by
 rw[za4,UInt8.toNat_ofNat'];omega
theorem zq7 (k:Nat) (h:k<10):dv (UInt8.ofNat (48+k))=k:=by
 unfold dv;rw[UInt8.toNat_ofNat'];omega
theorem zao (u:Nat):(Lib.decDigits u).all dig=true:=by
 induction u using Nat.strongRecOn with
 |_ u ih=>
  by_cases h:u<10
  ·rw[Lib.decDigits_one h,List.all_cons,zlj u h];rfl
  ·rw[zaq h,List.all_append,ih _ (by omega),List.all_cons,zlj (u%10) (by omega)];rfl
theorem zap (u:Nat):val (Lib.decDigits u)=u:=by
 induction u using Nat.strongRecOn with
 |_ u ih=>
  by_cases h:u<10
  ·rw[Lib.decDigits_one h,zdp,zq7 u h];simp[val]
  ·rw[zaq h,zba,ih _ (by omega),zq7 _ (by omega)];omega
theorem zas (u:Nat):Lib.decDigits u≠[]:=by
 intro h;have:=Lib.decDigits_length u;rw[h]at this;have:=Lib.nDigits_pos u;simp at *;omega
theorem zfi (l m:List UInt8) (h:l≠[]):(l++m).head?=l.head?:=by
 cases l with
 |nil=>exact absurd rfl h
 |cons a l=>rfl
theorem zil {P:List UInt8->Prop} (h0:P []) (h1:∀l c,P l->P (l++[c])):∀l,P l:=by
 have key:∀l:List UInt8,P l.reverse:=by
  intro l
  induction l with
  |nil=>exact h0
  |cons a l ih=>rw[List.reverse_cons];exact h1 _ _ ih
 intro l;have:=key l.reverse;rwa[List.reverse_reverse]at this
theorem zcg (u:Nat) (h0:u≠0):(Lib.decDigits u).head?≠some 48:=by
 induction u using Nat.strongRecOn with
 |_ u ih=>
  by_cases h:u<10
  ·rw[Lib.decDigits_one h];intro e;simp only[List.head?_cons,Option.some.injEq]at e;have:=congrArg UInt8.toNat e;rw[UInt8.toNat_ofNat']at this;simp at this;omega
  ·rw[zaq h,zfi _ _ (zas _)];exact ih _ (by omega) (by omega)
theorem zgh (l:List UInt8) (hne:l≠[]) (hd:l.all dig=true) (hz:l.head?≠some 48\/l.length=1):Lib.decDigits (val l)=l:=by
 revert hne hd hz
 refine zil (P:=fun l=>l≠[]->l.all dig=true->(l.head?≠some 48\/l.length=1)->Lib.decDigits (val l)=l) (fun h=>absurd rfl h) ?_ l;intro l c ih hne hd hz
 ·rw[List.all_append,Bool.and_eq_true]at hd;have hc:dig c=true:=by simpa using hd.2
  have hcv:=(za4 c).1 hc;have hcc:UInt8.ofNat (48+dv c)=c:=by
   unfold dv;rw[show 48+(c.toNat-48)=c.toNat from by omega];simp
  have hd9:dv c<10:=by unfold dv;omega
  rw[zba];by_cases hl:l=[]
  ·subst hl;rw[zq6,Nat.mul_zero,Nat.zero_add,Lib.decDigits_one hd9,hcc];rfl
  ·have hz1:l.head?≠some 48:=by
    rcases hz with h|h
    ·rwa[zfi _ _ hl]at h
    ·simp at h;exact absurd h hl
   have ih1:=ih hl hd.1 (.inl hz1);have hpos:1<=val l:=by
    rcases Nat.eq_zero_or_pos (val l)with h0|h0
    ·rw[h0,Lib.decDigits_one (by omega)]at ih1;exact absurd (by rw[<-ih1];rfl) hz1
    ·exact h0
   rw[zaq (by omega),show(10*val l+dv c) /10=val l from by omega,show(10*val l+dv c)%10=dv c from by omega,ih1,hcc]
theorem zgi (c:UInt8):Lib.digitVal c=if dig c=true then some (dv c)else none:=by
 unfold Lib.digitVal;by_cases h:dig c=true
 ·rw[if_pos h,if_pos ((za4 c).1 h)];rfl
 ·rw[if_neg h,if_neg (fun e=>h ((za4 c).2 e))]
theorem zhn (l:List UInt8) (a:Nat):Lib.decFrom a l=if l.all dig=true then some (a*10 ^ l.length+val l)else none:=by
 induction l generalizing a with
 |nil=>simp[Lib.decFrom,val]
 |cons c l ih=>
  unfold Lib.decFrom;rw[zgi];by_cases h:dig c=true
  ·rw[if_pos h];simp only;rw[ih,List.all_cons,h,Bool.true_and];by_cases h2:l.all dig=true
   ·rw[if_pos h2,if_pos h2,zdp,List.length_cons,Nat.pow_succ,Nat.add_mul,<-Nat.add_assoc,Nat.mul_assoc,Nat.mul_comm 10]
   ·rw[if_neg h2,if_neg h2]
  ·grind
theorem zez (l:List UInt8):Lib.decNat l=if l≠[]/\l.all dig=true then some (val l)else none:=by
 unfold Lib.decNat;cases l with
 |nil=>simp
 |cons c l=>
  rw[List.isEmpty_cons,if_neg (by simp),zhn,Nat.zero_mul,Nat.zero_add];by_cases h:(c::l).all dig=true
  ·grind
  ·grind
theorem zgj (n:Int):Lib.atoi (Lib.itoa n)=some n:=by
 unfold Lib.itoa;by_cases h:n<0
 ·rw[if_pos h];unfold Lib.atoi;simp only[beq_self_eq_true,if_true];rw[zez,if_pos ⟨zas _,zao _⟩,zap];simp;omega
 ·rw[if_neg h];have hne:=zas n.toNat;have hall:=zao n.toNat;have hval:=zap n.toNat;cases hd:Lib.decDigits n.toNat with
  |nil=>exact absurd hd hne
  |cons c l=>
   rw[hd]at hall hval;have hc:dig c=true:=by rw[List.all_cons,Bool.and_eq_true]at hall;exact hall.1
   have hcv:=(za4 c).1 hc;unfold Lib.atoi;have h45:(c==45)=false:=by
    rw[beq_eq_false_iff_ne];intro e;subst e;revert hcv;decide
   have h43:(c==43)=false:=by
    rw[beq_eq_false_iff_ne];intro e;subst e;revert hcv;decide
   simp only[h45,h43,Bool.false_eq_true,if_false];rw[zez,if_pos ⟨by simp,hall⟩,hval];simp;omega
theorem zbb (k u:Nat) (h:u<10 ^ (k+1)):Lib.nDigits u<=k+1:=by
 induction k generalizing u with
 |zero=>rw[Lib.nDigits_small (by simpa using h)];exact Nat.le_refl _
 |succ k ih=>
  by_cases h1:u<10
  ·rw[Lib.nDigits_small h1];omega
  ·rw[Lib.nDigits_big h1];have:=ih (u /10) (by rw[Nat.pow_succ]at h;omega);omega
theorem zci (n:Int) (k:Nat) (h:n.natAbs<10 ^ (k+1)):(Lib.itoa n).length<=k+2:=by
 unfold Lib.itoa;split
 ·rw[List.length_cons,Lib.decDigits_length];have:=zbb k _ h;omega
 ·rw[Lib.decDigits_length];have:=zbb k n.toNat (by omega);omega
def intS (n:List UInt8):List UInt8:=if n.length>1/\n.head?=some 45 then n.tail else n
def intB (n:List UInt8):Bool:=if(intS n).length=0\/(intS n).length>400\/((intS n).head?=some 48/\n.length>1)then false else(intS n).all dig
structure Dn where
 neg:Bool
 d:List Nat
 e:Int
def isZ (x:Nat):Bool:=x==0
def rz (d:List Nat):List Nat:=(d.reverse.dropWhile isZ).reverse
def zeroD:Dn:=⟨false,[],0⟩
def norm (neg:Bool) (d:List Nat) (e:Int):Dn:=
 if d.dropWhile isZ=[]then zeroD else⟨neg,rz (d.dropWhile isZ),e+(((d.dropWhile isZ).length-(rz (d.dropWhile isZ)).length:Nat):Int)⟩
def ch (v:Nat):UInt8:=UInt8.ofNat (48+v)
def vals (s:List UInt8):List Nat:=s.map dv
def coef (x:Dn):List UInt8:=if x.d=[]then[48]else(if x.neg=true then[45]else[])++x.d.map ch
def text (x:Dn):List UInt8:=coef x++101::Lib.itoa x.e
def lim (x:Dn):Nat:=if 400<x.d.length then 6 else if x.e< -2000\/2000<x.e then 2 else 0
structure Wf (x:Dn):Prop where
 zero:x.d=[]->x.neg=false/\x.e=0
 head:x.d.head?≠some 0
 last:x.d.getLast?≠some 0
 lt:∀v∈x.d,v<10
theorem dw_head (d:List Nat):(d.dropWhile isZ).head?≠some 0:=by
 induction d with
 |nil=>simp
 |cons a d ih=>
  rw[List.dropWhile_cons];split
  ·exact ih
  ·rename_i h;intro e;simp at e;subst e;exact h rfl
theorem zlk {α:Type} {p:α->Bool}:∀{l:List α} {x:α},x∈l.takeWhile p->p x=true
 | [],x,h=>by simp at h
 |a::l,x,h=>by
  rw[List.takeWhile_cons]at h;split at h
  ·rename_i ha;rcases List.mem_cons.1 h with h|h
   ·rw[h];exact ha
   ·exact zlk h
  ·simp at h
theorem zqa (d:List Nat):∀v∈d.dropWhile isZ,v∈d:=fun _ hv=>(List.dropWhile_sublist isZ).subset hv
theorem zsx (d:List Nat):∀v∈rz d,v∈d:=fun v hv=>by
 unfold rz at hv;rw[List.mem_reverse]at hv;exact List.mem_reverse.1 (zqa _ _ hv)
theorem zq8 (d:List Nat):(rz d).getLast?≠some 0:=by
 unfold rz;rw[List.getLast?_reverse];exact dw_head _
theorem zsy (d:List Nat):(rz d).length<=d.length:=by
 unfold rz;rw[List.length_reverse];exact Nat.le_trans (List.dropWhile_sublist isZ).length_le (by simp)
theorem zsz (d:List Nat):d=rz d++List.replicate (d.length-(rz d).length) 0:=by
 have h:=List.takeWhile_append_dropWhile (p:=isZ) (l:=d.reverse);have h2:d.reverse.takeWhile isZ=List.replicate (d.reverse.takeWhile isZ).length 0:=by
  rw[List.eq_replicate_iff];refine⟨rfl,fun b hb=>?_⟩;have:=zlk hb;simpa[isZ]using this
 have h3:d=rz d++(d.reverse.takeWhile isZ).reverse:=by
  unfold rz;rw[<-List.reverse_append,h,List.reverse_reverse]
 have h4:(d.reverse.takeWhile isZ).reverse=List.replicate (d.reverse.takeWhile isZ).length 0:=by
  grind
 rw[h4]at h3;have h5:=congrArg List.length h3;rw[List.length_append,List.length_replicate]at h5;rw[show d.length-(rz d).length=(d.reverse.takeWhile isZ).length from by omega];exact h3
theorem zt0 (d:List Nat) (h0:d.head?≠some 0) (hn:d≠[]):rz d≠[]/\(rz d).head?=d.head?:=by
 have h:=zsz d;cases hr:rz d with
 |nil=>
  grind
 |cons a l=>
  grind
theorem zfj (neg:Bool) (d:List Nat) (e:Int) (h:∀v∈d,v<10):Wf (norm neg d e):=by
 unfold norm;split
 ·exact⟨fun _=>⟨rfl,rfl⟩,by simp[zeroD],by simp[zeroD],fun v hv=>by simp[zeroD]at hv⟩
 ·rename_i hn;have h1:=zt0 _ (dw_head d) hn;exact⟨fun e=>absurd e h1.1,by rw[show Dn.d ⟨neg,rz (d.dropWhile isZ),_⟩=rz (d.dropWhile isZ)from rfl,h1.2];exact dw_head d,zq8 _,fun v hv=>h v (zqa _ _ (zsx _ _ hv))⟩
theorem zll (x:Dn) (h:Wf x) (hn:x.d≠[]):norm x.neg x.d x.e=x:=by
 obtain⟨neg,d,e⟩:=x;have hd:d.dropWhile isZ=d:=by
  cases d with
  |nil=>rfl
  |cons a d=>
   rw[List.dropWhile_cons,if_neg];intro e;have:=h.head;simp[isZ]at e this;exact this e
 have hr:rz d=d:=by
  unfold rz;have:d.reverse.dropWhile isZ=d.reverse:=by
   have hl:=h.last;rw[show Dn.d ⟨neg,d,e⟩=d from rfl,<-List.head?_reverse]at hl;cases hrv:d.reverse with
   |nil=>rfl
   |cons a l=>
    rw[hrv]at hl;rw[List.dropWhile_cons,if_neg];intro e;simp[isZ]at e hl;exact hl e
  rw[this,List.reverse_reverse]
 show norm neg d e=_;unfold norm;rw[hd,if_neg hn,hr,Nat.sub_self];simp
theorem zlm (neg:Bool) (e:Int):norm neg [0] e=zeroD:=rfl
theorem zqb (v:Nat) (h:v<10):dig (ch v)=true:=zlj v h
theorem zq9 (v:Nat) (h:v<10):dv (ch v)=v:=zq7 v h
theorem zfk (d:List Nat) (h:∀v∈d,v<10):vals (d.map ch)=d:=by
 unfold vals;rw[List.map_map]
 conv=>rhs;rw[<-List.map_id d]
 exact List.map_congr_left (fun v hv=>zq9 v (h v hv))
theorem zim (d:List Nat) (h:∀v∈d,v<10):(d.map ch).all dig=true:=by
 rw[List.all_eq_true];intro c hc;obtain⟨v,hv,rfl⟩:=List.mem_map.1 hc;exact zqb v (h v hv)
theorem zcj (s:List UInt8) (h:s.all dig=true):∀v∈vals s,v<10:=by
 intro v hv;obtain⟨c,hc,rfl⟩:=List.mem_map.1 hv;have:=(za4 c).1 (List.all_eq_true.1 h c hc);unfold dv;omega
theorem zbc {c:UInt8} (h:dig c=true) (k:Nat) (hk:k<48\/57<k) (h2:k<256):c≠UInt8.ofNat k:=by
 intro e;have:=(za4 c).1 h;rw[e,UInt8.toNat_ofNat']at this;omega
theorem zfl {d:List Nat} (hn:d≠[]) (h:∀v∈d,v<10) (hz:d.head?≠some 0):(d.map ch).head?≠some 48/\(d.map ch).head?≠some 45/\(d.map ch)≠[]:=by
 cases d with
 |nil=>exact absurd rfl hn
 |cons a d=>
  have ha:=h a (.head _);have h0:a≠0:=fun e=>hz (by rw[e];rfl)
  refine⟨?_,?_,by simp⟩
  ·intro e;simp only[List.map_cons,List.head?_cons,Option.some.injEq]at e;have:=congrArg dv e;rw[zq9 a ha]at this;exact h0 this
  ·intro e;simp only[List.map_cons,List.head?_cons,Option.some.injEq]at e;exact zbc (zqb a ha) 45 (.inl (by omega)) (by omega) e
theorem zfm {x:Dn} (hn:x.d≠[]):coef x=(if x.neg=true then[45]else[])++x.d.map ch:=by unfold coef;rw[if_neg hn]
theorem zgk {x:Dn} (h:Wf x) (hn:x.d≠[]):intS (coef x)=x.d.map ch:=by
 obtain⟨h1,h2,h3⟩:=zfl hn h.lt h.head;rw[zfm hn];unfold intS;cases x.neg with
 |true=>
  simp_all
 |false=>
  grind
theorem zln {x:Dn} (h:Wf x) (hl:x.d.length<=400):intB (coef x)=true:=by
 by_cases hn:x.d=[]
 ·unfold coef;rw[if_pos hn];decide
 ·obtain⟨h1,h2,h3⟩:=zfl hn h.lt h.head;unfold intB;rw[zgk h hn,if_neg,zim _ h.lt];rintro(h4|h4|h4)
  ·grind
  ·grind
  ·exact h1 h4.1
theorem zs0 (x:Dn) (h:Wf x):∀c∈coef x,c≠101/\(dig c=true\/c=45):=by
 have hk:∀c,dig c=true->c≠101/\(dig c=true\/c=45):=fun c hc=>⟨zbc hc 101 (.inr (by omega)) (by omega),.inl hc⟩
 intro c hc;unfold coef at hc;split at hc
 ·simp at hc;subst hc;exact hk _ (by decide)
 ·rw[List.mem_append]at hc;rcases hc with hc|hc
  ·grind
  ·exact hk _ (List.all_eq_true.1 (zim _ h.lt) c hc)
theorem zin {p:UInt8->Bool} (a:List UInt8) (c:UInt8) (r:List UInt8) (h:∀x∈a,p x=true) (hc:p c=false):(a++c::r).takeWhile p=a/\(a++c::r).dropWhile p=c::r:=by
 simp_all
def readP (s:List UInt8):Option Dn:=
 match s.dropWhile (fun c=>c != 101)with
 | []=>none
 |_::r=>
  if intB (s.takeWhile (fun c=>c != 101))=false\/5<r.length then none
  else match Lib.atoi r with
   |none=>none
   |some e=>
    if lim (norm ((s.takeWhile (fun c=>c != 101)).head? ==some 45) (vals (intS (s.takeWhile (fun c=>c != 101)))) e)=0/\text (norm ((s.takeWhile (fun c=>c != 101)).head? ==some 45) (vals (intS (s.takeWhile (fun c=>c != 101)))) e)=s
    then some (norm ((s.takeWhile (fun c=>c != 101)).head? ==some 45) (vals (intS (s.takeWhile (fun c=>c != 101)))) e)else none
theorem zdq {x:Dn} (h:lim x=0):x.d.length<=400/\-2000<=x.e/\x.e<=2000:=by
 unfold lim at h;split at h
 ·cases h
 ·split at h
  ·cases h
  ·omega
theorem zgl {x:Dn} (h:Wf x):norm ((coef x).head? ==some 45) (vals (intS (coef x))) x.e=x:=by
 by_cases hn:x.d=[]
 ·obtain⟨h1,h2⟩:=h.zero hn;obtain⟨neg,d,e⟩:=x;simp only at hn h1 h2;subst hn;subst h1;subst h2;unfold coef;rw[if_pos rfl];exact zlm _ _
 ·obtain⟨h1,h2,h3⟩:=zfl hn h.lt h.head;rw[zgk h hn,zfk _ h.lt];have:((coef x).head? ==some 45)=x.neg:=by
   rw[zfm hn];cases x.neg with
   |true=>rfl
   |false=>rw[if_neg (by simp),List.nil_append];simpa using h2
  rw[this];exact zll x h hn
theorem zju {x:Dn} (h:Wf x) (hl:lim x=0):readP (text x)=some x:=by
 obtain⟨l1,l2,l3⟩:=zdq hl;obtain⟨t1,t2⟩:=zin (p:=fun c=>c != 101) (coef x) 101 (Lib.itoa x.e) (fun c hc=>by simpa using(zs0 x h c hc).1) (by decide);have hlen:=zci x.e 3 (by omega);unfold readP;rw[show(text x).dropWhile (fun c=>c != 101)=101::Lib.itoa x.e from t2];simp only;rw[show(text x).takeWhile (fun c=>c != 101)=coef x from t1,zln h l1,if_neg (by rintro(h1|h1);cases h1;omega),zgj];simp only;rw[zgl h,if_pos ⟨hl,rfl⟩]
theorem zcv {a:List UInt8} (h:intB a=true):(intS a).all dig=true:=by
 unfold intB at h;split at h
 ·cases h
 ·exact h
theorem zjv {s:List UInt8} {x:Dn} (h:readP s=some x):Wf x/\lim x=0/\text x=s:=by
 unfold readP at h;split at h
 ·cases h
 ·split at h
  ·cases h
  ·rename_i hb;split at h
   ·cases h
   ·split at h
    ·rename_i hc;injection h with h
     subst h;refine⟨zfj _ _ _ (zcj _ (zcv ?_)),hc⟩;cases hi:intB (s.takeWhile (fun c=>c != 101))with
     |true=>rfl
     |false=>exact absurd (.inl hi) hb
    ·cases h
def satv (sat:Nat) (l:List UInt8):Nat:=l.foldl (fun n c=>min (10*n+dv c) sat) 0
theorem zlo (sat:Nat) (l:List UInt8):satv sat l=min (val l) sat:=by
 refine zil (P:=fun l=>satv sat l=min (val l) sat) (by simp[satv,val]) ?_ l;intro l c ih;unfold satv at ih ⊢;rw[List.foldl_append,ih,zba];simp only[List.foldl_cons,List.foldl_nil];omega
def expT (s4:List UInt8):List UInt8:=if s4.head?=some 45\/s4.head?=some 43 then s4.tail else s4
def expV (sat:Nat) (s4:List UInt8):Int:=if s4.head?=some 45 then -(satv sat (expT s4):Int)else(satv sat (expT s4):Int)
def expS (sat:Nat) (neg:Bool) (d:List Nat) (e:Int) (s3:List UInt8):Option Dn:=
 if s3=[]then some (norm neg d e)
 else if s3.head?=some 101\/s3.head?=some 69 then
  if expT s3.tail=[]\/(expT s3.tail).all dig=false then none else some (norm neg d (e+expV sat s3.tail))
 else none
def numT (sat:Nat) (neg:Bool) (s1:List UInt8):Option Dn:=
 if s1.takeWhile dig=[]\/((s1.takeWhile dig).head?=some 48/\1<(s1.takeWhile dig).length)then none
 else if(s1.dropWhile dig).head?=some 46 then
  if(s1.dropWhile dig).tail.takeWhile dig=[]then none
  else expS sat neg (vals (s1.takeWhile dig++(s1.dropWhile dig).tail.takeWhile dig)) (-(((s1.dropWhile dig).tail.takeWhile dig).length:Int)) ((s1.dropWhile dig).tail.dropWhile dig)
 else expS sat neg (vals (s1.takeWhile dig)) 0 (s1.dropWhile dig)
def numS (sat:Nat) (s:List UInt8):Option Dn:=if s.head?=some 45 then numT sat true s.tail else numT sat false s
def readR (s:List UInt8):Option Dn:=
 match numS 1000000 s with
 |none=>none
 |some x=>if lim x=0/\text x=s then some x else none
theorem zlp {sat:Nat} {neg:Bool} {d:List Nat} {e:Int} {s:List UInt8} {x:Dn} (hd:∀v∈d,v<10) (h:expS sat neg d e s=some x):Wf x:=by
 unfold expS at h;split at h
 ·injection h with h;subst h;exact zfj _ _ _ hd
 ·split at h
  ·split at h
   ·cases h
   ·injection h with h;subst h;exact zfj _ _ _ hd
  ·cases h
theorem zdi (s:List UInt8):(s.takeWhile dig).all dig=true:=by
 simp_all
theorem zlq {sat:Nat} {neg:Bool} {s:List UInt8} {x:Dn} (h:numT sat neg s=some x):Wf x:=by
 unfold numT at h;split at h
 ·cases h
 ·split at h
  ·split at h
   ·cases h
   ·refine zlp (zcj _ ?_) h;rw[List.all_append,zdi,zdi];rfl
  ·exact zlp (zcj _ (zdi _)) h
theorem zlr {sat:Nat} {s:List UInt8} {x:Dn} (h:numS sat s=some x):Wf x:=by
 unfold numS at h;split at h
 ·exact zlq h
 ·exact zlq h
theorem zjw {s:List UInt8} {x:Dn} (h:readR s=some x):Wf x/\lim x=0/\text x=s:=by
 unfold readR at h;split at h
 ·cases h
 ·rename_i y hy;split at h
  ·rename_i hc;injection h with h
   subst h;exact⟨zlr hy,hc⟩
  ·cases h
theorem zls (e:Int) (sat:Nat) (hs:e.natAbs<=sat) (neg:Bool) (d:List Nat):expS sat neg d 0 (101::Lib.itoa e)=some (norm neg d e):=by
 unfold expS;rw[if_neg (by simp),if_pos (.inl rfl)];simp only[List.tail_cons];unfold Lib.itoa expV expT;by_cases h:e<0
 ·rw[if_pos h];simp only[List.head?_cons,List.tail_cons,true_or,if_true];rw[if_neg,zlo,zap]
  ·congr 2;omega
  ·rintro(h1|h1)
   ·exact zas _ h1
   ·rw[zao]at h1;cases h1
 ·rw[if_neg h];have hne:=zas e.toNat;have hall:=zao e.toNat;have hval:=zap e.toNat;have hh:(Lib.decDigits e.toNat).head?≠some 45/\(Lib.decDigits e.toNat).head?≠some 43:=by
   cases hd:Lib.decDigits e.toNat with
   |nil=>exact absurd hd hne
   |cons c l=>
    rw[hd,List.all_cons,Bool.and_eq_true]at hall;exact⟨fun e=>zbc hall.1 45 (.inl (by omega)) (by omega) (by simpa using e),fun e=>zbc hall.1 43 (.inl (by omega)) (by omega) (by simpa using e)⟩
  simp only[hh.1,hh.2,or_self,if_false];rw[if_neg,zlo,hval]
  ·congr 2;omega
  ·grind
theorem zlt {x:Dn} (h:Wf x) (hl:lim x=0) (sat:Nat) (hs:2000<=sat):numS sat (text x)=some x:=by
 obtain⟨l1,l2,l3⟩:=zdq hl;have key:∀(neg:Bool) (i:List UInt8),i≠[]->i.all dig=true->(i.head?≠some 48\/i.length=1)->norm neg (vals i) x.e=x->numT sat neg (i++101::Lib.itoa x.e)=some x:=by
  intro neg i hi hd hh hx;obtain⟨t1,t2⟩:=zin (p:=dig) i 101 (Lib.itoa x.e) (List.all_eq_true.1 hd) (by decide);unfold numT;rw[t1,t2,if_neg,if_neg (by simp),zls _ _ (by omega),hx];rintro(h1|h1)
  ·exact hi h1
  ·grind
 have hx:=zgl h;by_cases hn:x.d=[]
 ·have hc:coef x=[48]:=by unfold coef;rw[if_pos hn]
  unfold numS text;rw[hc]at hx ⊢;rw[if_neg (by simp)];exact key false [48] (by simp) (by decide) (.inr rfl) hx
 ·obtain⟨h1,h2,h3⟩:=zfl hn h.lt h.head;have hx2:=zll x h hn;rw[<-zfk x.d h.lt]at hx2;unfold numS text;rw[zfm hn];cases hneg:x.neg with
  |true=>
   rw[if_pos rfl,List.cons_append,List.nil_append,if_pos (by rfl)];rw[hneg]at hx2;exact key true _ h3 (zim _ h.lt) (.inl h1) (by rw[zfk _ h.lt]at hx2 ⊢;exact hx2)
  |false=>
   rw[hneg]at hx2;rw[if_neg (c:=false=true) (by simp),List.nil_append,zfi _ _ h3,if_neg h2];exact key false _ h3 (zim _ h.lt) (.inl h1) (by rw[zfk _ h.lt]at hx2 ⊢;exact hx2)
theorem zjx {x:Dn} (h:Wf x) (hl:lim x=0):readR (text x)=some x:=by
 unfold readR;rw[zlt h hl _ (by omega)];show(if lim x=0/\text x=text x then some x else none)=some x;rw[if_pos ⟨hl,rfl⟩]
theorem zra (s:List UInt8):readP s=readR s:=by
 cases hp:readP s with
 |some x=>
  obtain⟨h1,h2,h3⟩:=zjv hp;rw[<-h3,zjx h1 h2]
 |none=>
  cases hr:readR s with
  |none=>rfl
  |some x=>
   obtain⟨h1,h2,h3⟩:=zjw hr;rw[<-h3,zju h1 h2]at hp;cases hp
def fitsB (m:Nat) (e:Int):Bool:=m%2==1 && decide (Lib.bitLen m<=53) && decide (-1074<=e) && decide (e<=1023) && decide (e+Lib.bitLen m<=1024)
def fT (s:List UInt8):List UInt8:=if s.head?=some 45 then s.tail else s
def fA (t:List UInt8):List UInt8:=t.takeWhile (fun c=>c != 112)
def fltN (t:List UInt8):Bool:=
 match t.dropWhile (fun c=>c != 112)with
 | []=>false
 |_::b=>match Lib.parseUintB 64 (fA t)with
  | .ok m=>match Lib.atoiAll b with
   | .ok e=>fitsB m e && decide (Lib.decDigits m++112::Lib.itoa e=t)
   |_=>false
  |_=>false
def fltP (s:List UInt8):Bool:=
 if s=[110,97,110]then true else if fT s=[105,110,102]then true else if fT s=[48,112,48]then true else fltN (fT s)
def numb (s:List UInt8):Option Int:=if intB s=true/\s.length<=18 then some (if s.head?=some 45 then -(val (intS s):Int)else(val (intS s):Int))else none
def mokB (m e:Int):Bool:=!(decide (m<0) || (m==0 && e != 0) || (m != 0 && (m%2==0 || decide (53<Lib.bitLen m.toNat) || decide (e< -1074) || decide (1023<e) || decide (1024<e+Lib.bitLen m.toNat))))
def fltR (s:List UInt8):Bool:=
 if fT s=[105,110,102]then true else if s=[110,97,110]then true
 else match(fT s).dropWhile (fun c=>c != 112)with
  | []=>false
  |_::b=>match numb (fA (fT s))with
   |some m=>match numb b with
    |some e=>mokB m e
    |none=>false
   |none=>false
theorem zlu {m:Nat} (h:m<2 ^ 64):m<2 ^ Lib.bitLen m:=by
 rcases Nat.eq_zero_or_pos m with h0|h0
 ·grind
 ·exact(Lib.bitLenAux_bounds 64 m h (by omega)).2.2
theorem zgm {m:Nat} (h:m<2 ^ 64) (hb:Lib.bitLen m<=53):m<2 ^ 53:=
 Nat.lt_of_lt_of_le (zlu h) (Nat.pow_le_pow_right (by omega) hb)
theorem zgn {s:List UInt8} {n:Int} (h:numb s=some n):s=Lib.itoa n/\n.natAbs<10 ^ 18:=by
 unfold numb at h;split at h
 ·rename_i hc;obtain⟨hb,hl⟩:=hc;have hall:=zcv hb;have hb2:=hb;unfold intB at hb2;split at hb2
  ·cases hb2
  ·rename_i hnn;have hne:intS s≠[]:=fun e=>hnn (.inl (by rw[e];rfl))
   have hlen:(intS s).length<=s.length:=by unfold intS;split<;>simp
   have hv:=zd9 _ hall;have hv2:val (intS s)<10 ^ 18:=Nat.lt_of_lt_of_le hv (Nat.pow_le_pow_right (by omega) (by omega));injection h with h
   by_cases h45:s.head?=some 45
   ·rw[if_pos h45]at h;have hl1:s.length>1:=by
     rcases Nat.lt_or_ge 1 s.length with h1|h1
     ·exact h1
     ·exfalso;have hs:s=[45]:=by
       cases s with
       |nil=>cases h45
       |cons a l=>cases l with
        |nil=>simp at h45;rw[h45]
        |cons b l=>simp at h1
      rw[hs]at hall;exact absurd hall (by decide)
    have hS:intS s=s.tail:=by unfold intS;rw[if_pos ⟨hl1,h45⟩]
    have h48:(intS s).head?≠some 48:=fun e=>hnn (.inr (.inr ⟨e,hl1⟩))
    have hcd:=zgh _ hne hall (.inl h48);have hpos:0<val (intS s):=by
     rcases Nat.eq_zero_or_pos (val (intS s))with h0|h0
     ·rw[h0,Lib.decDigits_one (by omega)]at hcd;exact absurd (by rw[<-hcd];rfl) h48
     ·exact h0
    refine⟨?_,by omega⟩;unfold Lib.itoa;rw[if_pos (by omega),show n.natAbs=val (intS s)from by omega,hcd,hS];cases s with
    |nil=>cases h45
    |cons a l=>simp at h45;rw[h45];rfl
   ·rw[if_neg h45]at h;have hS:intS s=s:=by unfold intS;rw[if_neg (fun e=>h45 e.2)]
    refine⟨?_,by omega⟩;unfold Lib.itoa;rw[if_neg (by omega),show n.toNat=val (intS s)from by omega,zgh _ hne hall,hS];rcases Nat.lt_or_ge 1 s.length with h1|h1
    ·grind
    ·omega
 ·cases h
theorem zgo (n:Int) (k:Nat) (hk:k<=16) (h:n.natAbs<10 ^ (k+1)):intS (Lib.itoa n)=Lib.decDigits n.natAbs/\intB (Lib.itoa n)=true/\(Lib.itoa n).length<=18/\(n<0↔(Lib.itoa n).head?=some 45):=by
 have hlen:=zci n k h;have hne:=zas n.natAbs;have hall:=zao n.natAbs;have hp:=List.length_pos_iff.2 hne;have hd45:(Lib.decDigits n.natAbs).head?≠some 45:=by
  cases hd:Lib.decDigits n.natAbs with
  |nil=>simp
  |cons c l=>
   rw[hd,List.all_cons,Bool.and_eq_true]at hall;exact fun e=>zbc hall.1 45 (.inl (by omega)) (by omega) (by simpa using e)
 by_cases hn:n<0
 ·have hi:Lib.itoa n=45::Lib.decDigits n.natAbs:=by unfold Lib.itoa;rw[if_pos hn]
  have hS:intS (Lib.itoa n)=Lib.decDigits n.natAbs:=by
   rw[hi];unfold intS;rw[if_pos ⟨by simp;omega,rfl⟩];rfl
  refine⟨hS,?_,by omega,⟨fun _=>by rw[hi];rfl,fun _=>hn⟩⟩;unfold intB;rw[hS,if_neg,hall];rintro(h1|h1|h1)
  ·omega
  ·grind
  ·exact zcg _ (by omega) h1.1
 ·have hi:Lib.itoa n=Lib.decDigits n.natAbs:=by unfold Lib.itoa;rw[if_neg hn,show n.toNat=n.natAbs from by omega]
  have hS:intS (Lib.itoa n)=Lib.decDigits n.natAbs:=by rw[hi];unfold intS;rw[if_neg (fun e=>hd45 e.2)]
  refine⟨hS,?_,by omega,⟨fun h=>absurd h hn,fun h=>by rw[hi]at h;exact absurd h hd45⟩⟩;unfold intB;rw[hS,if_neg,hall];rintro(h1|h1|h1)
  ·omega
  ·rw[hi]at hlen;omega
  ·by_cases h0:n.natAbs=0
   ·rw[hi,h0,Lib.decDigits_one (by omega)]at h1;simp at h1
   ·exact zcg _ h0 h1.1
theorem zlv (n:Int) (h:n.natAbs<10 ^ 17):numb (Lib.itoa n)=some n:=by
 obtain⟨h1,h2,h3,h4⟩:=zgo n 16 (by omega) h;unfold numb;rw[if_pos ⟨h2,h3⟩,h1,zap];by_cases hn:n<0
 ·grind
 ·grind
theorem zjy (M:Nat) (hM:M=18446744073709551615) (l:List UInt8) (acc:Nat) (h:l.all dig=true) (hb:acc*10 ^ l.length+val l<18446744073709551616):Lib.parseUintM M acc l=.ok (acc*10 ^ l.length+val l):=by
 induction l generalizing acc with
 |nil=>simp[Lib.parseUintM,val]
 |cons c l ih=>
  rw[List.all_cons,Bool.and_eq_true,za4]at h;rw[zdp,List.length_cons,Nat.pow_succ]at hb ⊢;have e1:acc*(10 ^ l.length*10)+(dv c*10 ^ l.length+val l)=(acc*10+dv c)*10 ^ l.length+val l:=by
   grind
  rw[e1]at hb ⊢;have hp:1<=10 ^ l.length:=Nat.one_le_pow _ _ (by decide);have h2:acc*10+dv c<=(acc*10+dv c)*10 ^ l.length:=Nat.le_mul_of_pos_right _ hp;unfold Lib.parseUintM;rw[if_pos h.1,if_neg (by omega),show c.toNat-48=dv c from rfl,if_neg (by omega),ih _ h.2 hb]
theorem zlw (m:Nat) (h:m<2 ^ 64):Lib.parseUintB 64 (Lib.decDigits m)=.ok m:=by
 unfold Lib.parseUintB;rw[if_neg (zas m),zjy _ (by decide) _ _ (zao m) (by rw[zap];omega),zap];simp
theorem zgp (n:Int) (h:n.natAbs<10 ^ 17):Lib.atoiAll (Lib.itoa n)=.ok n:=by
 rw[Lib.atoiAll_short _ (zgo n 16 (by omega) h).2.2.1,zgj];rfl
theorem zio (m:Nat):∀c∈Lib.decDigits m,(c != 112)=true:=by
 intro c hc;have:=List.all_eq_true.1 (zao m) c hc;simpa using zbc this 112 (.inr (by omega)) (by omega)
theorem zfn (m:Nat):Lib.itoa (m:Int)=Lib.decDigits m:=by unfold Lib.itoa;rw[if_neg (by omega)];rfl
theorem zlx (l:List UInt8) (acc u:Nat) (ha:acc<2 ^ 64) (h:Lib.parseUintM (2 ^ 64-1) acc l=.ok u):u<2 ^ 64:=by
 induction l generalizing acc with
 |nil=>simp only[Lib.parseUintM]at h;injection h with h;omega
 |cons c l ih=>
  unfold Lib.parseUintM at h;split at h
  ·grind
  ·cases h
theorem zol {l:List UInt8} {u:Nat} (h:Lib.parseUintB 64 l=.ok u):u<2 ^ 64:=by
 unfold Lib.parseUintB at h;split at h
 ·cases h
 ·exact zlx _ _ _ (by omega) h
theorem ziq (t:List UInt8):fltN t=true↔∃(m:Nat) (e:Int),t=Lib.decDigits m++112::Lib.itoa e/\m<2 ^ 64/\fitsB m e=true:=by
 constructor
 ·intro h;unfold fltN at h;split at h
  ·cases h
  ·split at h
   ·rename_i m hm;split at h
    ·rename_i e he;rw[Bool.and_eq_true]at h;exact⟨m,e,(of_decide_eq_true h.2).symm,zol hm,h.1⟩
    ·cases h
   ·cases h
 ·rintro⟨m,e,rfl,hm,hf⟩;obtain⟨t1,t2⟩:=zin (p:=fun c=>c != 112) (Lib.decDigits m) 112 (Lib.itoa e) (zio m) (by decide);have he:e.natAbs<10 ^ 17:=by
   unfold fitsB at hf;simp only[Bool.and_eq_true,decide_eq_true_iff]at hf;omega
  unfold fltN fA;rw[t1,t2];simp only;rw[zlw m hm];simp only;rw[zgp e he];simp only;rw[hf,Bool.true_and];simp
theorem zrb {m e:Int} (h:mokB m e=true) (h0:m≠0):0<m/\fitsB m.toNat e=true:=by
 unfold mokB at h;unfold fitsB;simp only[Bool.not_eq_true',Bool.or_eq_false_iff,Bool.and_eq_false_iff,decide_eq_false_iff_not,Bool.and_eq_true,decide_eq_true_iff,bne_eq_false_iff_eq,beq_eq_false_iff_ne,beq_iff_eq]at h ⊢;obtain⟨⟨h1,h2⟩,h3⟩:=h;rcases h3 with h3|h3
 ·exact absurd h3 h0
 ·omega
theorem zs1 {m:Nat} {e:Int} (hf:fitsB m e=true):mokB (m:Int) e=true:=by
 unfold fitsB at hf;unfold mokB;simp only[Bool.not_eq_true',Bool.or_eq_false_iff,Bool.and_eq_false_iff,decide_eq_false_iff_not,Bool.and_eq_true,decide_eq_true_iff,bne_eq_false_iff_eq,beq_eq_false_iff_ne,beq_iff_eq,Int.toNat_natCast]at hf ⊢;obtain⟨⟨⟨⟨a,b⟩,c⟩,d⟩,f⟩:=hf;refine⟨⟨by omega,.inl (by omega)⟩,.inr ⟨⟨⟨⟨by omega,by omega⟩,by omega⟩,by omega⟩,by omega⟩⟩
theorem zs2 (s:List UInt8):fltP s=fltR s:=by
 unfold fltP fltR;by_cases h1:s=[110,97,110]
 ·subst h1;rfl
 ·rw[if_neg h1,if_neg h1];by_cases h2:fT s=[105,110,102]
  ·rw[if_pos h2,if_pos h2]
  ·rw[if_neg h2,if_neg h2];generalize fT s=t;rw[Bool.eq_iff_iff];have h64:(10:Nat) ^ 17<2 ^ 64:=by decide
   have h53:(2:Nat) ^ 53<10 ^ 17:=by decide
   constructor
   ·intro h;split at h
    ·rename_i ht;subst ht;rfl
    ·obtain⟨m,e,rfl,hm,hf⟩:=(ziq t).1 h;obtain⟨t1,t2⟩:=zin (p:=fun c=>c != 112) (Lib.decDigits m) 112 (Lib.itoa e) (zio m) (by decide);have hff:=hf;unfold fitsB at hff;simp only[Bool.and_eq_true,decide_eq_true_iff]at hff;obtain⟨⟨⟨⟨a,b⟩,c⟩,d⟩,f⟩:=hff;have:=zgm hm b;unfold fA;rw[t1,t2];simp only;rw[<-zfn,zlv (m:Int) (by omega)];simp only;rw[zlv e (by omega)];exact zs1 hf
   ·intro h;split at h
    ·cases h
    ·rename_i c b hd;split at h
     ·rename_i m hm;split at h
      ·rename_i e he;obtain⟨ha,hma⟩:=zgn hm;obtain⟨hb,heb⟩:=zgn he;have hc:c=112:=by
        have:=List.head?_dropWhile_not (fun c:UInt8=>c != 112) t;rw[hd]at this;simpa using this
       have ht:t=Lib.itoa m++112::Lib.itoa e:=by
        rw[<-ha,<-hb,<-hc,<-hd];exact(List.takeWhile_append_dropWhile).symm
       by_cases h0:m=0
       ·subst h0;have he0:e=0:=by
         unfold mokB at h;simp at h;exact h
        subst he0;have h00:Lib.itoa 0=[48]:=by unfold Lib.itoa;rw[if_neg (by omega)];exact Lib.decDigits_one (i:=0) (by omega)
        rw[if_pos (by rw[ht,h00];rfl)]
       ·obtain⟨p1,p2⟩:=zrb h h0;split
        ·rfl
        ·rw[ziq];refine⟨m.toNat,e,?_,by omega,p2⟩;rw[ht,<-zfn,show((m.toNat:Nat):Int)=m from by omega]
      ·cases h
     ·cases h
end Gr
end Go.Proofs.YtoigpackhninoaaGreatDoor

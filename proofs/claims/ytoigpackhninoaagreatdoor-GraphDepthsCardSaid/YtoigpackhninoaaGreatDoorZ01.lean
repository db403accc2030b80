import Derived.Test.YtoigpackhninoaaGreatDoorRows
import Derived.WalkSpells
import Derived.WalkLawsBesides
import Derived.Handy
import Derived.Deep.AppendLies
import Derived.BigQuiet
import Derived.Deep.Fields
import Derived.Shelf.Strings.Trim
import Derived.Shelf.Small.Utf8
import Derived.Shelf.Small.Wraps
import Derived.Shelf.Strconv.Itoa3
import Derived.Shelf.Strconv.ErrVarAll
import Derived.Shelf.Pu.ParseUintPublic10
import Derived.Shelf.Strings.Shaped
import Derived.Shelf.Strings.Runes
import Derived.Shelf.Strings.AsciiSet
import Derived.Shelf.Strings.Repeat
import Derived.Shelf.Unicode.DecodeAny
import Derived.Shelf.Strings.BuilderCap
namespace Go.Proofs.YtoigpackhninoaaGreatDoor
open Go.RowKit
theorem zsc {a b:Bool} (h:a=b):Ending.returned (.bool a)=.returned (.bool b):=by rw[h]
theorem zos {k:IntKind} {a b:Int} (h:a=b):Ending.returned (.int k a)=.returned (.int k b):=by rw[h]
theorem zcv {B:Nat} {w wr w1:World} (h:Below B w wr) (hz:B<=wr.heap.size) (h1:Below wr.heap.size wr w1):Below B w w1:=h.trans (h1.mono hz)
theorem zbd (a:Addr) (n:Nat):(a.add n).block=a.block:=by unfold Addr.add;split<;>rfl
theorem zf4 (a:Addr) (i j:Nat):(a.add i).add j=a.add (i+j):=by
 unfold Addr.add;by_cases hi:i=0<;>by_cases hj:j=0<;>simp[hi,hj,Nat.add_assoc]
def Reads (w:World) (B size:Nat) (A:Option Addr) (n:Nat) (xs:List Value):Prop:=
 xs.length=n*size/\(0<n->∃ad,A=some ad/\ad.block<B/\∀j u,xs[j]? =some u->w.cell? (ad.add j)=some u)
section
variable {w w':World} {B B' size n:Nat} {A:Option Addr} {xs:List Value}
theorem Reads.none_:Reads w B size A 0 []:=⟨by simp,fun h=>absurd h (by omega)⟩
theorem Reads.at_ {k:Nat} (h:Reads w B 1 A n xs) (hk:k<n):∃ad u,A=some ad/\ad.block<B/\xs[k]? =some u/\w.cell? (ad.add k)=some u:=by
 obtain⟨ad,e,hb,hc⟩:=h.2 (by omega);have hl:k<xs.length:=by have:=h.1;omega
 exact⟨ad,xs[k],e,hb,List.getElem?_eq_getElem hl,hc k _ (List.getElem?_eq_getElem hl)⟩
theorem Reads.keep (h:Reads w B size A n xs) (hk:∀p:Addr,p.block<B->w'.cell? p=w.cell? p):Reads w' B size A n xs:=
 ⟨h.1,fun hn=>by
  obtain⟨ad,e,hb,hc⟩:=h.2 hn;exact⟨ad,e,hb,fun j u hu=>(hk _ (by rw[zbd];exact hb)).trans (hc j u hu)⟩⟩
theorem Reads.more (h:Reads w B size A n xs) (hB:B<=B'):Reads w B' size A n xs:=
 ⟨h.1,fun hn=>by
  obtain⟨ad,e,hb,hc⟩:=h.2 hn;exact⟨ad,e,by omega,hc⟩⟩
theorem Reads.below (h:Reads w B size A n xs) (hb:Below B w w'):Reads w' B size A n xs:=h.keep fun _ hp=>hb.cell hp
theorem Reads.drew (h:Reads w B size A n xs):Reads w.drew B size A n xs:=h
theorem Reads.drewN (h:Reads w B size A n xs) (k:Nat):Reads (w.drewN k) B size A n xs:=h
theorem Reads.alloc (h:Reads w B size A n xs) (hB:B<=w.heap.size) (o:Obj):Reads (w.alloc o) B size A n xs:=h.keep fun p hp=>World.cell?_alloc_lt w o p (by omega)
theorem Reads.setCell (h:Reads w B size A n xs) {p:Addr} (hB:B<=p.block) (u:Value):Reads (w.setCell p u) B size A n xs:=
 h.keep fun q hq=>World.cell?_setCell_other w p q u (fun e=>by subst e;omega)
theorem Reads.grown (h:Reads w B size A n xs) {row:Option Nat} (hg:w.grownBy w' row) (hB:B<=w.heap.size) (hr:∀g,row=some g->B<=g):Reads w' B size A n xs:=
 h.keep fun p hp=>World.cell?_of_block (hg.block p.block (by omega) (fun e=>by have:=hr _ e.symm;omega))
theorem Reads.cut (h:Reads w B size A n xs) {k cap:Nat} (hk:k<=n) (hc:n<=cap):
 Reads w B size (if cap=k then A else A.map (·.add (k*size))) (n-k) (xs.drop (k*size)):=by
 refine⟨by rw[List.length_drop,h.1,Nat.sub_mul],fun hn=>?_⟩;obtain⟨ad,rfl,hb,hcell⟩:=h.2 (by omega);rw[if_neg (by omega)];refine⟨ad.add (k*size),rfl,by rw[zbd];exact hb,fun j u hu=>?_⟩;rw[zf4];exact hcell _ u (by rw[<-hu,List.getElem?_drop])
theorem Reads.of_own {base:Nat} {e:TypeId} {c:Nat} (h:w.ownsRow base e size (.slice A n c) n xs):Reads w w.heap.size size A n xs:=by
 refine⟨h.1,fun hn=>?_⟩;obtain⟨g,cap,hv,_,hlt⟩:=h.form hn;have hA:A=some ⟨g,0,none⟩:=by injection hv
 subst hA;exact⟨_,rfl,hlt,h.cells (g:=g) rfl⟩
end
def Blk (w:World) (g:Nat) (t:TypeId) (cs:Array Value):Prop:=w.heap[g]? =some (.cells cs t (0,0))
section
variable {w w':World} {g:Nat} {t:TypeId} {cs:Array Value}
theorem Blk.lt (h:Blk w g t cs):g<w.heap.size:=by
 rcases Nat.lt_or_ge g w.heap.size with hlt|hge
 ·exact hlt
 ·unfold Blk at h;rw[Array.getElem?_eq_none hge]at h;cases h
theorem Blk.cell (h:Blk w g t cs) (i:Nat):w.cell? ⟨g,i,none⟩=cs[i]? :=cell_of_row w g i cs t (0,0) h
theorem Blk.frozen (h:Blk w g t cs) (i:Nat):w.frozen? ⟨g,i,none⟩=false:=by
 unfold Blk at h;simp[World.frozen?,h]
theorem Blk.new (w:World) (t:TypeId) (cs:Array Value):Blk (w.alloc (.cells cs t)) w.heap.size t cs:=heap_alloc_new w _
theorem Blk.drew (h:Blk w g t cs):Blk w.drew g t cs:=h
theorem Blk.drewN (h:Blk w g t cs) (n:Nat):Blk (w.drewN n) g t cs:=h
theorem Blk.alloc (h:Blk w g t cs) (o:Obj):Blk (w.alloc o) g t cs:=(Below.heap_alloc w o g h.lt).trans h
theorem Blk.set_ (h:Blk w g t cs) (i:Nat) (u:Value):Blk (w.setCell ⟨g,i,none⟩ u) g t (cs.setIfInBounds i u):=by
 unfold Blk at h ⊢;simp[World.setCell,Array.getElem?_modify,h]
theorem Blk.far (h:Blk w g t cs) {p:Addr} (hp:g≠p.block) (u:Value):Blk (w.setCell p u) g t cs:=(Below.heap_setCell w p u g hp).trans h
theorem Blk.below {B:Nat} (h:Blk w g t cs) (hb:Below B w w') (hg:g<B):Blk w' g t cs:=(hb.block g hg).trans h
theorem Blk.grown {row:Option Nat} (h:Blk w g t cs) (hb:w.grownBy w' row) (hg:some g≠row):Blk w' g t cs:=(hb.block g h.lt hg).trans h
theorem Blk.ne_ {g':Nat} {t':TypeId} {cs':Array Value} (h:Blk w g t cs) (h':Blk w g' t' cs') (hne:t≠t'):g≠g':=by
 rintro rfl;unfold Blk at h h';rw[h]at h';injection h' with h'
 injection h' with _ ht
 exact hne ht
theorem zbx {base:Nat} {e:TypeId} {size n:Nat} {v:Value} {xs:List Value} (h:w.ownsRow base e size v n xs) (hg:Blk w g t cs) (hne:e≠t):v.ownBlock≠some g:=by
 rcases h.2 with⟨rfl,_⟩|⟨g',cap,cur,rfl,_,hh,_⟩
 ·simp[Value.ownBlock]
 ·intro he;have:g'=g:=by simpa[Value.ownBlock]using he
  subst this;exact Blk.ne_ (t:=e) hh hg hne rfl
end
section
variable {P:Program} (w:World)
theorem zdw (base:Nat) (t ty e:TypeId) (i:TypeInfo) (size:Nat) (ht:P.underlying t=some (.slice e)) (hi:P.info? e=some i)
 (v:Value) (n:Nat) (xs:List Value) (hown:w.ownsRow base e size v n xs) (c:Nat):(Builtin.append_ #[t,t] ty #[v,.slice none 0 c]).run P w=.ok v w:=by
 rcases hown.2 with⟨rfl,rfl⟩|⟨g,cap,cur,rfl,_,_,hnc,_⟩
 ·simp[Builtin.append_,run_underlying ht,sizeOf,typeInfo,hi,Builtin.lenOf,Builtin.firstCells]
 ·simp[Builtin.append_,run_underlying ht,sizeOf,typeInfo,hi,Builtin.lenOf,Builtin.firstCells,hnc,storeCells]
theorem zft (base:Nat) (t ty e:TypeId) (i:TypeInfo) (z:Value) (size bytes:Nat) (ht:P.underlying t=some (.slice e)) (hi:P.info? e=some i) (hz:i.zero=some z)
 (hsize:i.size=size) (hby:i.bytes=bytes) (hzs:z.cells.size=size) (hsz:0<size)
 (v:Value) (n:Nat) (xs:List Value) (hown:w.ownsRow base e size v n xs)
 (B:Nat) (A:Option Addr) (m c:Nat) (news:List Value) (hr:Reads w B size A m news) (h1:∀u∈news,u.oneCell'=true)
 (h63:n+m<=maxLen) (hbytes:(n+m)*bytes<=140737488355328) (hbase:base<=w.heap.size):
 ∃v' w',(Builtin.append_ #[t,t] ty #[v,.slice A m c]).run P w=.ok v' w'/\w'.ownsRow base e size v' (n+m) (xs++news)/\w.grownBy w' v.ownBlock/\
  (v'.ownBlock=v.ownBlock\/v'.ownBlock=some w.heap.size):=by
 rcases A with _|ad
 ·have hm:m=0:=by
   rcases Nat.eq_zero_or_pos m with h0|h0
   ·exact h0
   ·obtain⟨ad,h,_⟩:=hr.2 h0;cases h
  subst hm;have hn:news=[]:=List.eq_nil_of_length_eq_zero (by simpa using hr.1);subst hn;exact⟨v,w,zdw w base t ty e i size ht hi v n xs hown c,by simpa using hown,World.grownBy.refl w _,.inl rfl⟩
 ·have hcells:∀j u,news[j]? =some u->w.cell? (ad.add j)=some u:=by
   intro j u hu;rcases Nat.eq_zero_or_pos m with h0|h0
   ·subst h0;have hn:news=[]:=List.eq_nil_of_length_eq_zero (by simpa using hr.1);subst hn;simp at hu
   ·obtain⟨ad',h,_,hc⟩:=hr.2 h0;injection h with h
    subst h;exact hc j u hu
  obtain⟨v',w',hrun,h2,h3,_,h5⟩:=run_append_own_at (P:=P) w base t ty e i z size bytes ht hi hz hsize hby hzs hsz v n xs hown ad m c news hr.1 hcells h1 h63 hbytes hbase;exact⟨v',w',hrun,h2,h3,h5⟩
theorem zdh {o:Oper} {a:Act} {K:Act->World->Prop} {Q:Exit->Act->World->Prop} (s x:Operand) (t:TypeId)
 (ho:o.op=.call {callee:=.builtin .append,args:=#[s,x],argTypes:=#[t,t]})
 (base:Nat) (e:TypeId) (i:TypeInfo) (z:Value) (size bytes:Nat) (ht:P.underlying t=some (.slice e)) (hi:P.info? e=some i) (hz:i.zero=some z)
 (hsize:i.size=size) (hby:i.bytes=bytes) (hzs:z.cells.size=size) (hsz:0<size)
 (v:Value) (n:Nat) (xs:List Value) (hs:a.eval s=v) (hown:w.ownsRow base e size v n xs)
 (B:Nat) (A:Option Addr) (m c:Nat) (news:List Value) (hx:a.eval x=.slice A m c) (hr:Reads w B size A m news) (h1:∀u∈news,u.oneCell'=true)
 (h63:n+m<=maxLen) (hbytes:(n+m)*bytes<=140737488355328) (hbase:base<=w.heap.size)
 (h:∀v' w',w'.ownsRow base e size v' (n+m) (xs++news)->w.grownBy w' v.ownBlock->(v'.ownBlock=v.ownBlock\/v'.ownBlock=some w.heap.size)->K (a.put o.dst v') w'):o.wp P a w K Q:=by
 obtain⟨v',w',hrun,h2,h3,h4⟩:=zft (P:=P) w base t o.type e i z size bytes ht hi hz hsize hby hzs hsz v n xs hown B A m c news hr h1 h63 hbytes hbase;unfold Oper.wp execOp;simp only[ho,resolve,invoke,builtin,Sem.run_bind,Sem.run_pure,Result.andThen_ok,List.map_toArray,List.map_cons,List.map_nil,hs,hx,hrun];exact h v' w' h2 h3 h4
theorem zdx {ops:Array Oper} {rest:List Oper} {o:Oper} {a:Act} {Q:Exit->Act->World->Prop} (hgd:o.guard=none) (s x:Operand) (t:TypeId)
 (ho:o.op=.call {callee:=.builtin .append,args:=#[s,x],argTypes:=#[t,t]})
 (base:Nat) (e:TypeId) (i:TypeInfo) (z:Value) (size bytes:Nat) (ht:P.underlying t=some (.slice e)) (hi:P.info? e=some i) (hz:i.zero=some z)
 (hsize:i.size=size) (hby:i.bytes=bytes) (hzs:z.cells.size=size) (hsz:0<size)
 (v:Value) (n:Nat) (xs:List Value) (hs:a.eval s=v) (hown:w.ownsRow base e size v n xs)
 (B:Nat) (A:Option Addr) (m c:Nat) (news:List Value) (hx:a.eval x=.slice A m c) (hr:Reads w B size A m news) (h1:∀u∈news,u.oneCell'=true)
 (h63:n+m<=maxLen) (hbytes:(n+m)*bytes<=140737488355328) (hbase:base<=w.heap.size)
 (h:∀v' w',w'.ownsRow base e size v' (n+m) (xs++news)->w.grownBy w' v.ownBlock->(v'.ownBlock=v.ownBlock\/v'.ownBlock=some w.heap.size)->wpList P ops Q rest (a.put o.dst v') w'):wpList P ops Q (o::rest) a w:=
 wpList_plain hgd fun _ hK=>zdh w s x t ho base e i z size bytes ht hi hz hsize hby hzs hsz v n xs hs hown B A m c news hx hr h1 h63 hbytes hbase fun v' w' h2 h3 h4=>hK _ _ (h v' w' h2 h3 h4)
theorem zez {ops:Array Oper} {o:Oper} {a:Act} {K:Act->World->Prop} {Q:Exit->Act->World->Prop} {E:Prop} (hgd:o.guard=none) (s x:Operand) (t:TypeId)
 (ho:o.op=.call {callee:=.builtin .append,args:=#[s,x],argTypes:=#[t,t]})
 (base:Nat) (e:TypeId) (i:TypeInfo) (z:Value) (size bytes:Nat) (ht:P.underlying t=some (.slice e)) (hi:P.info? e=some i) (hz:i.zero=some z)
 (hsize:i.size=size) (hby:i.bytes=bytes) (hzs:z.cells.size=size) (hsz:0<size)
 (v:Value) (n:Nat) (xs:List Value) (hs:a.eval s=v) (hown:w.ownsRow base e size v n xs)
 (B:Nat) (A:Option Addr) (m c:Nat) (news:List Value) (hx:a.eval x=.slice A m c) (hr:Reads w B size A m news) (h1:∀u∈news,u.oneCell'=true)
 (h63:n+m<=maxLen) (hbytes:(n+m)*bytes<=140737488355328) (hbase:base<=w.heap.size)
 (h:∀v' w',w'.ownsRow base e size v' (n+m) (xs++news)->w.grownBy w' v.ownBlock->(v'.ownBlock=v.ownBlock\/v'.ownBlock=some w.heap.size)->K (a.put o.dst v') w'):
 if Region.wanted o (yielded ops a.tmps)=true then Oper.wp P o a w K Q else E:=by
 have hw:Region.wanted o (yielded ops a.tmps)=true:=by simp[Region.wanted,hgd]
 rw[if_pos hw];exact zdh w s x t ho base e i z size bytes ht hi hz hsize hby hzs hsz v n xs hs hown B A m c news hx hr h1 h63 hbytes hbase h
end
theorem ex {α:Sort _} (a:α):∃q,a=q:=⟨a,rfl⟩
structure Lay (α:Type) where
 enc:α->List Value
 sz:Nat
 len:∀x,(enc x).length=sz
 one:∀x,∀u∈enc x,u.oneCell'=true
 pos:0<sz
section
variable {α:Type} (L:Lay α)
def Lay.all (l:List α):List Value:=l.flatMap L.enc
theorem Lay.all_len (l:List α):(L.all l).length=l.length*L.sz:=by
 induction l with
 |nil=>simp[Lay.all]
 |cons x l ih=>simp only[Lay.all,List.flatMap_cons,List.length_append,L.len,List.length_cons,Nat.add_mul,Nat.one_mul]at *;omega
theorem Lay.all_append (l r:List α):L.all (l++r)=L.all l++L.all r:=by simp[Lay.all]
theorem Lay.all_one (l:List α):∀u∈L.all l,u.oneCell'=true:=by
 intro u hu;simp only[Lay.all,List.mem_flatMap]at hu;obtain⟨x,_,hx⟩:=hu;exact L.one x u hx
theorem Lay.all_at (l:List α) (k:Nat) (x:α) (h:l[k]? =some x) (j:Nat) (u:Value) (hj:(L.enc x)[j]? =some u):(L.all l)[k*L.sz+j]? =some u:=by
 induction l generalizing k with
 |nil=>simp at h
 |cons y l ih=>
  have hjl:j<L.sz:=by
   have:=(List.getElem?_eq_some_iff.1 hj).1;rwa[L.len]at this
  cases k with
  |zero=>
   simp at h;subst h;simp only[Lay.all,List.flatMap_cons,Nat.zero_mul,Nat.zero_add];rw[List.getElem?_append_left (by rw[L.len];exact hjl)];exact hj
  |succ k=>
   simp at h;have:=ih k h;simp only[Lay.all,List.flatMap_cons]at this ⊢;rw[List.getElem?_append_right (by rw[L.len,Nat.add_mul];omega),L.len];rw[show(k+1)*L.sz+j-L.sz=k*L.sz+j from by rw[Nat.add_mul];omega];exact this
def RowAt (w:World) (B:Nat) (A:Option Addr) (l:List α):Prop:=Reads w B L.sz A l.length (L.all l)
def OwnRow (w:World) (base:Nat) (E:TypeId) (v:Value) (l:List α):Prop:=w.ownsRow base E L.sz v l.length (L.all l)
end
theorem zgz (a:Addr) (i j:Nat) (hj:0<j):a.add (i+j)={block:=(a.add i).block,off:=(a.add i).off+j}:=by
 unfold Addr.add;rw[if_neg (by omega)];split<;>simp_all<;>omega
section
variable {α:Type} {L:Lay α} {w w':World} {B B' base:Nat} {E:TypeId} {A:Option Addr} {v:Value} {l m:List α}
theorem RowAt.nil:RowAt L w B none []:=Reads.none_
theorem RowAt.get {k:Nat} (h:RowAt L w B A l) (hk:k<l.length):
 ∃ad,A=some ad/\ad.block<B/\(∀u,(L.enc l[k])[0]? =some u->w.cell? (ad.add (k*L.sz))=some u)/\
  ∀j u,0<j->(L.enc l[k])[j]? =some u->w.cell? {block:=(ad.add (k*L.sz)).block,off:=(ad.add (k*L.sz)).off+j}=some u:=by
 obtain⟨ad,e,hb,hc⟩:=h.2 (by omega);have hx:l[k]? =some l[k]:=List.getElem?_eq_getElem hk;refine⟨ad,e,hb,fun u hu=>hc _ _ ?_,fun j u hj hu=>?_⟩
 ·have:=L.all_at l k l[k] hx 0 u hu;simpa using this
 ·rw[<-zgz _ _ _ hj];exact hc _ _ (L.all_at l k l[k] hx j u hu)
theorem RowAt.below (h:RowAt L w B A l) (hb:Below B w w'):RowAt L w' B A l:=Reads.below h hb
theorem RowAt.more (h:RowAt L w B A l) (hB:B<=B'):RowAt L w B' A l:=Reads.more h hB
theorem RowAt.alloc (h:RowAt L w B A l) (hB:B<=w.heap.size) (o:Obj):RowAt L (w.alloc o) B A l:=Reads.alloc h hB o
theorem RowAt.drewN (h:RowAt L w B A l) (n:Nat):RowAt L (w.drewN n) B A l:=h
theorem OwnRow.nil:OwnRow L w base E (.slice none 0 0) []:=World.ownsRow_nil w base E L.sz
theorem OwnRow.form (h:OwnRow L w base E v l):∃A c,v=.slice A l.length c/\RowAt L w w.heap.size A l:=by
 have h':=h;rcases h.2 with⟨hv,hn⟩|⟨g,cap,cur,hv,_⟩
 ·have hl:l=[]:=List.eq_nil_of_length_eq_zero hn;subst hl;exact⟨none,0,hv,RowAt.nil⟩
 ·exact⟨_,cap,hv,Reads.of_own (c:=cap) (by rw[<-hv];exact h')⟩
theorem OwnRow.below (h:OwnRow L w base E v l) (hb:Below B w w') (hB:∀k,v.ownBlock=some k->k<B):OwnRow L w' base E v l:=by
 refine⟨h.1,?_⟩;rcases h.2 with hn|⟨g,cap,cur,rfl,hbg,hgg,rest⟩
 ·exact .inl hn
 ·exact .inr ⟨g,cap,cur,rfl,hbg,by rw[hb.block g (hB g (by simp[Value.ownBlock]))];exact hgg,rest⟩
theorem OwnRow.lt (h:OwnRow L w base E v l):∀k,v.ownBlock=some k->base<=k/\k<w.heap.size:=World.ownsRow.lt h
theorem OwnRow.later (h:OwnRow L w base E v l) (hb:Below w.heap.size w w'):OwnRow L w' base E v l:=h.below hb (fun k hk=>(h.lt k hk).2)
theorem OwnRow.alloc (h:OwnRow L w base E v l) (o:Obj):OwnRow L (w.alloc o) base E v l:=World.ownsRow.alloc h o
theorem OwnRow.drewN (h:OwnRow L w base E v l) (n:Nat):OwnRow L (w.drewN n) base E v l:=h
theorem grownBy_setCell' (w:World) (p:Addr) (u:Value):w.grownBy (w.setCell p u) (some p.block):=
 ⟨rfl,rfl,rfl,by simp[World.setCell],fun k _ hne=>Below.heap_setCell w p u k (fun e=>hne (by rw[e]))⟩
theorem OwnRow.setCell (h:OwnRow L w base E v l) {p:Addr} (hp:v.ownBlock≠some p.block) (u:Value):OwnRow L (w.setCell p u) base E v l:=
 World.ownsRow.kept h (grownBy_setCell' w p u) (.inr hp)
theorem OwnRow.grown_below (h:OwnRow L w base E v l) (hg:w.grownBy w' v.ownBlock) (hb:base<=w.heap.size):Below base w w':=
 (Below.refl base w).grown hg hb (fun k hk=>(h.lt k hk).1)
theorem OwnRow.ne_ (h:OwnRow L w base E v l) {g:Nat} (hg:w.heap.size<=g):some g≠v.ownBlock:=by
 intro e;have:=h.lt g e.symm;omega
theorem OwnRow.lower {base':Nat} (h:OwnRow L w base E v l) (hb:base'<=base):OwnRow L w base' E v l:=by
 refine⟨h.1,?_⟩;rcases h.2 with hn|⟨g,cap,cur,rfl,hbg,rest⟩
 ·exact .inl hn
 ·exact .inr ⟨g,cap,cur,rfl,by omega,rest⟩
theorem OwnRow.lit1 (hb:base<=w.heap.size) (x:α) (cs:Array Value) (hcs:cs.toList=L.enc x):
 OwnRow L (w.alloc (.cells cs E)) base E (.slice (some ⟨w.heap.size,0,none⟩) 1 1) [x]:=by
 have hsz:cs.size=L.sz:=by rw[<-Array.length_toList,hcs,L.len]
 refine⟨by simp[Lay.all,L.len],.inr ⟨w.heap.size,1,_,rfl,hb,heap_alloc_new w _,Nat.le_refl _,by simp[maxLen],by simp[hsz],?_⟩⟩;rw[hcs];simp[Lay.all,List.take_of_length_le,L.len]
theorem RowAt.lit1 (x:α) (cs:Array Value) (hcs:cs.toList=L.enc x) (n:Nat) (hn:n=w.heap.size):RowAt L (w.alloc (.cells cs E)) (w.heap.size+1) (some ⟨n,0,none⟩) [x]:=by
 subst hn;have h:=Reads.of_own (OwnRow.lit1 (L:=L) (E:=E) (Nat.le_refl w.heap.size) x cs hcs);rw[World.size_alloc]at h;exact h
end
structure SliceT (P:Program) {α:Type} (L:Lay α) (t e:TypeId) (bytes:Nat):Prop where
 und:P.underlying t=some (.slice e)
 info:∃i z,P.info? e=some i/\i.zero=some z/\i.size=L.sz/\i.bytes=bytes/\z.cells.size=L.sz
 small:bytes<=256
section
variable {P:Program} {α:Type} {L:Lay α} (w:World)
theorem zac {ops:Array Oper} {rest:List Oper} {o:Oper} {a:Act} {Q:Exit->Act->World->Prop} (hgd:o.guard=none) (s x:Operand) (t e:TypeId) (bytes:Nat)
 (ho:o.op=.call {callee:=.builtin .append,args:=#[s,x],argTypes:=#[t,t]}) (hT:SliceT P L t e bytes)
 (base:Nat) (v:Value) (l:List α) (hs:a.eval s=v) (hown:OwnRow L w base e v l)
 (B:Nat) (A:Option Addr) (c:Nat) (m:List α) (hx:a.eval x=.slice A m.length c) (hr:RowAt L w B A m)
 (hlen:l.length+m.length<=1073741824) (hbase:base<=w.heap.size)
 (h:∀v' w',OwnRow L w' base e v' (l++m)->w.grownBy w' v.ownBlock->(v'.ownBlock=v.ownBlock\/v'.ownBlock=some w.heap.size)->wpList P ops Q rest (a.put o.dst v') w'):wpList P ops Q (o::rest) a w:=by
 obtain⟨i0,z,hi,hz0,hz1,hz2,hz3⟩:=hT.info;have hb:(l.length+m.length)*bytes<=1073741824*256:=Nat.mul_le_mul hlen hT.small;refine zdx w hgd s x t ho base e i0 z L.sz bytes hT.und hi hz0 hz1 hz2 hz3 L.pos v l.length (L.all l) hs hown B A m.length c (L.all m) hx hr (L.all_one m) (by simp only[maxLen];omega) (by omega) hbase ?_;intro v' w' h1 h2 h3;refine h v' w' ?_ h2 h3;unfold OwnRow;rw[List.length_append,L.all_append];exact h1
theorem zax {ops:Array Oper} {o:Oper} {a:Act} {K:Act->World->Prop} {Q:Exit->Act->World->Prop} {E:Prop} (hgd:o.guard=none) (s x:Operand) (t e:TypeId) (bytes:Nat)
 (ho:o.op=.call {callee:=.builtin .append,args:=#[s,x],argTypes:=#[t,t]}) (hT:SliceT P L t e bytes)
 (base:Nat) (v:Value) (l:List α) (hs:a.eval s=v) (hown:OwnRow L w base e v l)
 (B:Nat) (A:Option Addr) (c:Nat) (m:List α) (hx:a.eval x=.slice A m.length c) (hr:RowAt L w B A m)
 (hlen:l.length+m.length<=1073741824) (hbase:base<=w.heap.size)
 (h:∀v' w',OwnRow L w' base e v' (l++m)->w.grownBy w' v.ownBlock->(v'.ownBlock=v.ownBlock\/v'.ownBlock=some w.heap.size)->K (a.put o.dst v') w'):
 if Region.wanted o (yielded ops a.tmps)=true then Oper.wp P o a w K Q else E:=by
 obtain⟨i0,z,hi,hz0,hz1,hz2,hz3⟩:=hT.info;have hb:(l.length+m.length)*bytes<=1073741824*256:=Nat.mul_le_mul hlen hT.small;refine zez w hgd s x t ho base e i0 z L.sz bytes hT.und hi hz0 hz1 hz2 hz3 L.pos v l.length (L.all l) hs hown B A m.length c (L.all m) hx hr (L.all_one m) (by simp only[maxLen];omega) (by omega) hbase ?_;intro v' w' h1 h2 h3;refine h v' w' ?_ h2 h3;unfold OwnRow;rw[List.length_append,L.all_append];exact h1
end
structure zbj (w w':World) (S:Nat->Prop):Prop where
 os:w'.os=w.os
 tape:w'.tape=w.tape
 output:w'.output=w.output
 size:w.heap.size<=w'.heap.size
 block:∀k,k<w.heap.size->¬S k->w'.heap[k]? =w.heap[k]?
theorem zbj.below {w w':World} {S:Nat->Prop} {B:Nat} (h:zbj w w' S) (hB:B<=w.heap.size) (hS:∀k,S k->B<=k):Below B w w':=
 ⟨h.os,h.tape,h.output,h.size,fun k hk=>h.block k (by omega) (fun hs=>by have:=hS k hs;omega)⟩
theorem zbj.cell {w w':World} {S:Nat->Prop} (h:zbj w w' S) {g i:Nat} {v:Value} (hc:w.cell? ⟨g,i,none⟩=some v) (hS:¬S g):w'.cell? ⟨g,i,none⟩=some v:=
 (World.cell?_of_block (w:=w) (h.block g (World.block_lt_of_cell? w ⟨g,i,none⟩ hc) hS)).trans hc
theorem zas (s:List UInt8) (i j:Nat):(⟨s.toArray⟩:ByteArray).extract i j=⟨((s.drop i).take (j-i)).toArray⟩:=by
 apply ByteArray.ext;apply Array.ext';simp[ByteArray.extract,ByteArray.copySlice,List.extract]
section
variable {α:Type} {L:Lay α} {w:World} {B base:Nat} {E:TypeId} {A:Option Addr} {v:Value} {l:List α}
theorem Lay.all_drop (l:List α) (k:Nat):L.all (l.drop k)=(L.all l).drop (k*L.sz):=by
 induction l generalizing k with
 |nil=>simp[Lay.all]
 |cons x l ih=>
  cases k with
  |zero=>simp
  |succ k=>
   have e:L.all (x::l)=L.enc x++L.all l:=rfl;have h1:(L.enc x).drop ((k+1)*L.sz)=[]:=List.drop_eq_nil_of_le (by rw[L.len,Nat.add_mul];omega);rw[List.drop_succ_cons,ih,e,List.drop_append,h1,L.len,List.nil_append,show(k+1)*L.sz-L.sz=k*L.sz from by rw[Nat.add_mul];omega]
theorem Lay.all_take (l:List α) (k:Nat):L.all (l.take k)=(L.all l).take (k*L.sz):=by
 induction l generalizing k with
 |nil=>simp[Lay.all]
 |cons x l ih=>
  cases k with
  |zero=>simp[Lay.all]
  |succ k=>
   have e:L.all (x::l)=L.enc x++L.all l:=rfl;have e2:L.all (x::l.take k)=L.enc x++L.all (l.take k):=rfl;have h1:(L.enc x).take ((k+1)*L.sz)=L.enc x:=List.take_of_length_le (by rw[L.len,Nat.add_mul];omega);rw[List.take_succ_cons,e2,ih,e,List.take_append,h1,L.len,show(k+1)*L.sz-L.sz=k*L.sz from by rw[Nat.add_mul];omega]
theorem RowAt.take (h:RowAt L w B A l) (k:Nat) (hk:k<=l.length):RowAt L w B A (l.take k):=by
 refine⟨L.all_len _,fun hn=>?_⟩;rw[List.length_take]at hn;obtain⟨ad,e,hb,hc⟩:=h.2 (by omega);refine⟨ad,e,hb,fun j u hj=>hc j u ?_⟩;rw[Lay.all_take,List.getElem?_take]at hj;split at hj
 ·exact hj
 ·cases hj
theorem RowAt.drop (h:RowAt L w B A l) {k cap:Nat} (hk:k<=l.length) (hc:l.length<=cap):RowAt L w B (if cap=k then A else A.map (·.add (k*L.sz))) (l.drop k):=by
 have:=Reads.cut h hk hc;unfold RowAt;rw[List.length_drop,Lay.all_drop];exact this
end
section
variable {P:Program}
theorem run_slice_l (t e:TypeId) (i:TypeInfo) (ht:P.underlying t=some (.slice e)) (hi:P.info? e=some i) (a:Option Addr) (n c k:Nat) (hk:k<=n) (w:World):
 (Instr.slice t (.slice a n c) (some (.int .i64 (k:Int))) none none).run P w=.ok (.slice (if c=k then a else a.map (·.add (k*i.size))) (n-k) (c-k)) w:=by
 have e1:∀code,(Instr.sliceBound (.int .i64 (k:Int)) n code).run P w=.ok k w:=fun code=>by
  rw[run_sliceBound (P:=P) (w:=w) .i64 k n code (by omega) (by omega)];simp
 simp[Instr.slice,run_underlying ht,Instr.sliceBounds,sizeOf,typeInfo,hi,e1]
theorem run_slice_h (t e:TypeId) (i:TypeInfo) (ht:P.underlying t=some (.slice e)) (hi:P.info? e=some i) (a:Option Addr) (n c m:Nat) (hm:m<=c) (w:World):
 (Instr.slice t (.slice a n c) none (some (.int .i64 (m:Int))) none).run P w=.ok (.slice (if c=0 then a else a.map (·.add (0*i.size))) m c) w:=by
 have e1:∀code,(Instr.sliceBound (.int .i64 (m:Int)) c code).run P w=.ok m w:=fun code=>by
  rw[run_sliceBound (P:=P) (w:=w) .i64 m c code (by omega) (by omega)];simp
 simp[Instr.slice,run_underlying ht,Instr.sliceBounds,sizeOf,typeInfo,hi,e1]
theorem zh9 (t e:TypeId) (i:TypeInfo) (ht:P.underlying t=some (.slice e)) (hi:P.info? e=some i) (a:Option Addr) (n c:Nat) (k:Int) (h0:0<=k) (hk:k<=n) (w:World):
 (Instr.slice t (.slice a n c) (some (.int .i64 k)) none none).run P w=.ok (.slice (if c=k.toNat then a else a.map (·.add (k.toNat*i.size))) (n-k.toNat) (c-k.toNat)) w:=by
 have:=run_slice_l (P:=P) t e i ht hi a n c k.toNat (by omega) w;rwa[show((k.toNat:Nat):Int)=k from by omega]at this
end
theorem cells2 {w:World} {g:Nat} {t:TypeId} {v0 v1:Value} {l:List Value} (h:Blk w g t (List.toArray (v0::v1::l))):w.cell? ⟨g,0,none⟩=some v0/\w.cell? ⟨g,1,none⟩=some v1:=⟨h.cell 0,h.cell 1⟩
theorem cells3 {w:World} {g:Nat} {t:TypeId} {v0 v1 v2:Value} {l:List Value} (h:Blk w g t (List.toArray (v0::v1::v2::l))):w.cell? ⟨g,0,none⟩=some v0/\w.cell? ⟨g,1,none⟩=some v1/\w.cell? ⟨g,2,none⟩=some v2:=⟨h.cell 0,h.cell 1,h.cell 2⟩
theorem cells4 {w:World} {g:Nat} {t:TypeId} {v0 v1 v2 v3:Value} {l:List Value} (h:Blk w g t (List.toArray (v0::v1::v2::v3::l))):w.cell? ⟨g,0,none⟩=some v0/\w.cell? ⟨g,1,none⟩=some v1/\w.cell? ⟨g,2,none⟩=some v2/\w.cell? ⟨g,3,none⟩=some v3:=⟨h.cell 0,h.cell 1,h.cell 2,h.cell 3⟩
theorem cells5 {w:World} {g:Nat} {t:TypeId} {v0 v1 v2 v3 v4:Value} {l:List Value} (h:Blk w g t (List.toArray (v0::v1::v2::v3::v4::l))):w.cell? ⟨g,0,none⟩=some v0/\w.cell? ⟨g,1,none⟩=some v1/\w.cell? ⟨g,2,none⟩=some v2/\w.cell? ⟨g,3,none⟩=some v3/\w.cell? ⟨g,4,none⟩=some v4:=⟨h.cell 0,h.cell 1,h.cell 2,h.cell 3,h.cell 4⟩
theorem zaf {w:World} {g:Nat} {t:TypeId} {v0 v1 v2 v3 v4 v5 v6 v7 v8 v9 v10:Value} {l:List Value} (h:Blk w g t (List.toArray (v0::v1::v2::v3::v4::v5::v6::v7::v8::v9::v10::l))):w.cell? ⟨g,0,none⟩=some v0/\w.cell? ⟨g,1,none⟩=some v1/\w.cell? ⟨g,2,none⟩=some v2/\w.cell? ⟨g,3,none⟩=some v3/\w.cell? ⟨g,4,none⟩=some v4/\w.cell? ⟨g,5,none⟩=some v5/\w.cell? ⟨g,6,none⟩=some v6/\w.cell? ⟨g,7,none⟩=some v7/\w.cell? ⟨g,8,none⟩=some v8/\w.cell? ⟨g,9,none⟩=some v9/\w.cell? ⟨g,10,none⟩=some v10:=⟨h.cell 0,h.cell 1,h.cell 2,h.cell 3,h.cell 4,h.cell 5,h.cell 6,h.cell 7,h.cell 8,h.cell 9,h.cell 10⟩
theorem zag {w:World} {g:Nat} {t:TypeId} {v0 v1 v2 v3 v4 v5 v6 v7 v8 v9 v10 v11:Value} {l:List Value} (h:Blk w g t (List.toArray (v0::v1::v2::v3::v4::v5::v6::v7::v8::v9::v10::v11::l))):w.cell? ⟨g,0,none⟩=some v0/\w.cell? ⟨g,1,none⟩=some v1/\w.cell? ⟨g,2,none⟩=some v2/\w.cell? ⟨g,3,none⟩=some v3/\w.cell? ⟨g,4,none⟩=some v4/\w.cell? ⟨g,5,none⟩=some v5/\w.cell? ⟨g,6,none⟩=some v6/\w.cell? ⟨g,7,none⟩=some v7/\w.cell? ⟨g,8,none⟩=some v8/\w.cell? ⟨g,9,none⟩=some v9/\w.cell? ⟨g,10,none⟩=some v10/\w.cell? ⟨g,11,none⟩=some v11:=⟨h.cell 0,h.cell 1,h.cell 2,h.cell 3,h.cell 4,h.cell 5,h.cell 6,h.cell 7,h.cell 8,h.cell 9,h.cell 10,h.cell 11⟩
def T12 (a b c:Bool) (d e f g h i j k:Int) (l:Bool):Array Value:=#[.bool a,.bool b,.bool c,.int .i64 d,.int .i64 e,.int .i64 f,.int .i64 g,.int .i64 h,.int .i64 i,.int .i64 j,.int .i64 k,.bool l]
end Go.Proofs.YtoigpackhninoaaGreatDoor
namespace Go.Proofs
open _root_.Go.Proofs.Tryz
open Go.Shelf
theorem fx {α:Type _} {a:Option α} {b c:α} (h:a=some b) (e:b=c):a=some c:=h.trans (congrArg some e)
def Tryz.lays162_ren:Go.Shelf.Ren:=⟨fun| 162=>161| 232=>185| 227=>186| 234=>187| 236=>188| 228=>205| 271=>206| 151=>207| 120=>217| 197=>91| 152=>218| 260=>123| 137=>107| 119=>222| 224=>193| 225=>192| 217=>140| 266=>165|n=>n,fun| 9=>9| 4=>4| 3=>3| 5=>5| 117=>219| 116=>218| 0=>0| 124=>222| 21=>21| 105=>131| 46=>194| 119=>193| 139=>197| 138=>196|n=>n,fun| 3=>1| 4=>2|n=>n⟩
theorem Tryz.lays162:Go.Proofs.Lays.n162 prog lays162_ren:={
 mixed:=by kernel_rfl
 f119:=fx func222 (by kernel_rfl)
 f120:=fx func217 (by kernel_rfl)
 f137:=fx func107 (by kernel_rfl)
 f151:=fx func207 (by kernel_rfl)
 f152:=fx func218 (by kernel_rfl)
 f162:=fx func161 (by kernel_rfl)
 f197:=fx func91 (by kernel_rfl)
 f217:=fx func140 (by kernel_rfl)
 f224:=fx func193 (by kernel_rfl)
 f225:=fx func192 (by kernel_rfl)
 f227:=fx func186 (by kernel_rfl)
 f228:=fx func205 (by kernel_rfl)
 f232:=fx func185 (by kernel_rfl)
 f234:=fx func187 (by kernel_rfl)
 f236:=fx func188 (by kernel_rfl)
 f260:=fx func123 (by kernel_rfl)
 f266:=fx func165 (by kernel_rfl)
 f271:=fx func206 (by kernel_rfl)
 t0:=underlying0
 a0:=isAgg0
 z0:=sizeOf0
 v0:=zeroValue0
 t3:=underlying3
 a3:=isAgg3
 z3:=sizeOf3
 v3:=zeroValue3
 t4:=underlying4
 a4:=isAgg4
 z4:=sizeOf4
 v4:=zeroValue4
 t5:=underlying5
 a5:=isAgg5
 z5:=sizeOf5
 v5:=zeroValue5
 t9:=underlying9
 a9:=isAgg9
 z9:=sizeOf9
 v9:=zeroValue9
 t21:=underlying21
 a21:=isAgg21
 z21:=sizeOf21
 v21:=zeroValue21
 t46:=underlying194
 a46:=isAgg194
 z46:=sizeOf194
 v46:=zeroValue194
 t105:=underlying131
 a105:=isAgg131
 z105:=sizeOf131
 v105:=zeroValue131
 t116:=underlying218
 a116:=isAgg218
 z116:=sizeOf218
 t117:=underlying219
 a117:=isAgg219
 z117:=sizeOf219
 v117:=zeroValue219
 t119:=underlying193
 a119:=isAgg193
 z119:=sizeOf193
 t124:=underlying222
 a124:=isAgg222
 z124:=sizeOf222
 v124:=zeroValue222
 t138:=underlying196
 a138:=isAgg196
 z138:=sizeOf196
 v138:=zeroValue196
 t139:=underlying197
 a139:=isAgg197
 z139:=sizeOf197
 v139:=zeroValue197
 g3:=by kernel_rfl
 g4:=by kernel_rfl}
open Go.RowKit in
theorem Tryz.strings_TrimRight_one (s:ByteArray) (c:UInt8) (hc:c.toNat<128) (w:World) (hs:s.size<=9223372036854775807):
 Calls prog 161 #[.string s,.string ⟨#[c]⟩] w fun e w'=>e=.returned (.string ⟨(Lib.trimRightB s.data.toList c).toArray⟩)/\w'=w:=Any.strings_TrimRight_one lays162 s c hc w hs
def Tryz.lays137_ren:Go.Shelf.Ren:=⟨fun| 137=>107| 217=>140| 266=>165|n=>n,fun| 9=>9| 5=>5| 3=>3|n=>n,fun|n=>n⟩
theorem Tryz.lays137:Go.Proofs.Lays.n137 prog lays137_ren:={
 mixed:=by kernel_rfl
 f137:=fx func107 (by kernel_rfl)
 f217:=fx func140 (by kernel_rfl)
 f266:=fx func165 (by kernel_rfl)
 t3:=underlying3
 a3:=isAgg3
 z3:=sizeOf3
 v3:=zeroValue3
 t5:=underlying5
 a5:=isAgg5
 z5:=sizeOf5
 v5:=zeroValue5
 t9:=underlying9
 a9:=isAgg9
 z9:=sizeOf9
 v9:=zeroValue9}
open Go.RowKit in
theorem Tryz.strings_IndexByte (s:ByteArray) (c:Int) (w:World):
 Calls prog 107 #[.string s,.int .u8 c] w fun e w'=>e=.returned (.int .i64 (Lib.indexByte s.data.toList c.toNat.toUInt8))/\w'=w:=Any.strings_IndexByte lays137 s c w
def Tryz.lays103_ren:Go.Shelf.Ren:=⟨fun| 103=>114| 210=>146| 206=>171|n=>n,fun| 9=>9| 4=>4| 24=>158| 3=>3|n=>n,fun|n=>n⟩
theorem Tryz.lays103:Go.Proofs.Lays.n103 prog lays103_ren:={
 mixed:=by kernel_rfl
 f103:=fx func114 (by kernel_rfl)
 f206:=fx func171 (by kernel_rfl)
 f210:=fx func146 (by kernel_rfl)
 t3:=underlying3
 a3:=isAgg3
 z3:=sizeOf3
 v3:=zeroValue3
 t4:=underlying4
 a4:=isAgg4
 z4:=sizeOf4
 v4:=zeroValue4
 t9:=underlying9
 a9:=isAgg9
 z9:=sizeOf9
 v9:=zeroValue9
 t24:=underlying158
 a24:=isAgg158
 z24:=sizeOf158
 v24:=zeroValue158}
open Go.RowKit in
theorem Tryz.strings_CutPrefix (s p:ByteArray) (w:World):
 Calls prog 114 #[.string s,.string p] w fun e w'=>e=.returned (.tuple #[.string ⟨(Lib.trimPrefix s.data.toList p.data.toList).toArray⟩,.bool (Lib.hasPrefix s.data.toList p.data.toList)])/\w'=w:=Any.strings_CutPrefix lays103 s p w
def Tryz.lays129_ren:Go.Shelf.Ren:=⟨fun| 129=>150|n=>n,fun| 53=>72| 3=>3| 4=>4| 46=>194| 5=>5| 9=>9|n=>n,fun|n=>n⟩
theorem Tryz.lays129:Go.Proofs.Lays.n129 prog lays129_ren:={
 mixed:=by kernel_rfl
 f129:=fx func150 (by kernel_rfl)
 t3:=underlying3
 a3:=isAgg3
 z3:=sizeOf3
 v3:=zeroValue3
 t4:=underlying4
 a4:=isAgg4
 z4:=sizeOf4
 v4:=zeroValue4
 t5:=underlying5
 a5:=isAgg5
 z5:=sizeOf5
 v5:=zeroValue5
 t9:=underlying9
 a9:=isAgg9
 z9:=sizeOf9
 v9:=zeroValue9
 t46:=underlying194
 a46:=isAgg194
 z46:=sizeOf194
 v46:=zeroValue194
 t53:=underlying72
 a53:=isAgg72
 z53:=sizeOf72
 v53:=zeroValue72}
theorem Tryz.bits_Len64 (x:Int) (w:World) (h0:0<=x) (h1:x<=18446744073709551615):
 Calls prog 150 #[.int .u64 x] w fun e w'=>e=.returned (.int .i64 (Lib.bitLen x.toNat))/\w'=w:=Any.bits_Len64 lays129 x w h0 h1
def Tryz.lays283_ren:Go.Shelf.Ren:=⟨fun| 283=>195|n=>n,fun| 3=>3| 9=>9| 4=>4|n=>n,fun|n=>n⟩
theorem Tryz.lays283:Go.Proofs.Lays.n283 prog lays283_ren:={
 mixed:=by kernel_rfl
 f283:=fx func195 (by kernel_rfl)
 t3:=underlying3
 a3:=isAgg3
 z3:=sizeOf3
 v3:=zeroValue3
 t4:=underlying4
 a4:=isAgg4
 z4:=sizeOf4
 v4:=zeroValue4
 t9:=underlying9
 a9:=isAgg9
 z9:=sizeOf9
 v9:=zeroValue9}
open Go.Lib in
theorem Tryz.internal_strconv_small (i:Nat) (h:i<100) (w:World):
 Calls prog 195 #[.int .i64 i] w fun e w'=>e=.returned (.string ⟨(Lib.decDigits i).toArray⟩)/\w'=w:=Any.internal_strconv_small lays283 i h w
def Tryz.laysM284_ren:Go.Shelf.Ren:=⟨fun| 284=>196| 129=>150| 317=>209| 318=>210|n=>n,fun| 53=>72| 3=>3| 212=>249| 0=>0| 4=>4| 46=>194| 5=>5| 9=>9|n=>n,fun| 17=>7|n=>n⟩
theorem Tryz.laysM284:Go.Proofs.LaysM.n284 prog laysM284_ren:={
 mixed:=by kernel_rfl
 f129:=fx func150 (by kernel_rfl)
 f284:=fx func196 (by kernel_rfl)
 f317:=fx func209 (by kernel_rfl)
 f318:=fx func210 (by kernel_rfl)
 t0:=underlying0
 a0:=isAgg0
 z0:=sizeOf0
 v0:=zeroValue0
 t3:=underlying3
 a3:=isAgg3
 z3:=sizeOf3
 v3:=zeroValue3
 t4:=underlying4
 a4:=isAgg4
 z4:=sizeOf4
 v4:=zeroValue4
 t5:=underlying5
 a5:=isAgg5
 z5:=sizeOf5
 v5:=zeroValue5
 t9:=underlying9
 a9:=isAgg9
 z9:=sizeOf9
 v9:=zeroValue9
 t46:=underlying194
 a46:=isAgg194
 z46:=sizeOf194
 v46:=zeroValue194
 t53:=underlying72
 a53:=isAgg72
 z53:=sizeOf72
 v53:=zeroValue72
 t212:=underlying249
 a212:=isAgg249
 z212:=sizeOf249
 v212:=zeroValue249
 g17:=by kernel_rfl
 i0:=by kernel_rfl
 i3:=by kernel_rfl
 i4:=by kernel_rfl
 i5:=by kernel_rfl
 i9:=by kernel_rfl
 i46:=by kernel_rfl
 i53:=by kernel_rfl
 i212:=by kernel_rfl
 m17:=by kernel_rfl}
open Go.Lib in
theorem Tryz.internal_strconv_numDigits (u:Nat) (h1:1<=u) (h2:u<18446744073709551616) (w:World) (htab:Lib.TabIs prog w "internal/strconv.uint64pow10" .u64 Lib.pow10Tab):
 Calls prog 196 #[.int .u64 u] w fun e w'=>e=.returned (.int .i64 (Lib.nDigits u))/\w'=w:=Any.internal_strconv_numDigits laysM284 u h1 h2 w htab
def Tryz.lays285_ren:Go.Shelf.Ren:=⟨fun| 285=>197|n=>n,fun| 37=>119| 53=>72| 3=>3| 4=>4| 51=>245| 9=>9| 5=>5| 0=>0|n=>n,fun|n=>n⟩
theorem Tryz.lays285:Go.Proofs.Lays.n285 prog lays285_ren:={
 mixed:=by kernel_rfl
 f285:=fx func197 (by kernel_rfl)
 t0:=underlying0
 a0:=isAgg0
 z0:=sizeOf0
 v0:=zeroValue0
 t3:=underlying3
 a3:=isAgg3
 z3:=sizeOf3
 v3:=zeroValue3
 t4:=underlying4
 a4:=isAgg4
 z4:=sizeOf4
 v4:=zeroValue4
 t5:=underlying5
 a5:=isAgg5
 z5:=sizeOf5
 v5:=zeroValue5
 t9:=underlying9
 a9:=isAgg9
 z9:=sizeOf9
 v9:=zeroValue9
 t37:=underlying119
 a37:=isAgg119
 z37:=sizeOf119
 v37:=zeroValue119
 t51:=underlying245
 a51:=isAgg245
 z51:=sizeOf245
 v51:=zeroValue245
 t53:=underlying72
 a53:=isAgg72
 z53:=sizeOf72
 v53:=zeroValue72}
open Go.RowKit Go.Sort Go.Lib in
theorem Tryz.internal_strconv_formatBase10 (blk off cap:Nat) (u:Nat) (d:Array UInt8) (w:World) (hH:Holds (fun(b:UInt8)=>Value.int .u8 (b.toNat:Int)) w blk off d) (hu:u<10 ^ d.size) (hu64:u<18446744073709551616) (hsz:d.size<4611686018427387904):
 Calls prog 197 #[.slice (some ⟨blk,off,none⟩) d.size cap,.int .u64 u] w fun e w'=>
  e=.returned (.tuple #[])/\∃(n v':Nat) (dk:Array UInt8),w'=(putRow (fun(b:UInt8)=>Value.int .u8 (b.toNat:Int)) w blk off dk).drewN n/\FmtInv d.size u 0 v' dk:=Any.internal_strconv_formatBase10 lays285 blk off cap u d w hH hu hu64 hsz
def Tryz.laysM171_ren:Go.Shelf.Ren:=⟨fun| 171=>145| 243=>174| 246=>191| 283=>195| 284=>196| 285=>197| 286=>198| 129=>150| 317=>209| 318=>210| 319=>211| 320=>212| 337=>219| 338=>181|n=>n,fun| 3=>3| 9=>9| 2=>2| 4=>4| 171=>229| 0=>0| 53=>72| 37=>119| 5=>5| 173=>231| 212=>249| 51=>245| 20=>20| 213=>250| 46=>194| 232=>261| 233=>228|n=>n,fun| 17=>7| 18=>8| 19=>6|n=>n⟩
theorem Tryz.laysM171:Go.Proofs.LaysM.n171 prog laysM171_ren:={
 mixed:=by kernel_rfl
 f129:=fx func150 (by kernel_rfl)
 f171:=fx func145 (by kernel_rfl)
 f243:=fx func174 (by kernel_rfl)
 f246:=fx func191 (by kernel_rfl)
 f283:=fx func195 (by kernel_rfl)
 f284:=fx func196 (by kernel_rfl)
 f285:=fx func197 (by kernel_rfl)
 f286:=fx func198 (by kernel_rfl)
 f317:=fx func209 (by kernel_rfl)
 f318:=fx func210 (by kernel_rfl)
 f319:=fx func211 (by kernel_rfl)
 f320:=fx func212 (by kernel_rfl)
 f337:=fx func219 (by kernel_rfl)
 f338:=fx func181 (by kernel_rfl)
 t0:=underlying0
 a0:=isAgg0
 z0:=sizeOf0
 v0:=zeroValue0
 t2:=underlying2
 a2:=isAgg2
 z2:=sizeOf2
 v2:=zeroValue2
 t3:=underlying3
 a3:=isAgg3
 z3:=sizeOf3
 v3:=zeroValue3
 t4:=underlying4
 a4:=isAgg4
 z4:=sizeOf4
 v4:=zeroValue4
 t5:=underlying5
 a5:=isAgg5
 z5:=sizeOf5
 v5:=zeroValue5
 t9:=underlying9
 a9:=isAgg9
 z9:=sizeOf9
 v9:=zeroValue9
 t20:=underlying20
 a20:=isAgg20
 z20:=sizeOf20
 v20:=zeroValue20
 t37:=underlying119
 a37:=isAgg119
 z37:=sizeOf119
 v37:=zeroValue119
 t46:=underlying194
 a46:=isAgg194
 z46:=sizeOf194
 v46:=zeroValue194
 t51:=underlying245
 a51:=isAgg245
 z51:=sizeOf245
 v51:=zeroValue245
 t53:=underlying72
 a53:=isAgg72
 z53:=sizeOf72
 v53:=zeroValue72
 t171:=underlying229
 a171:=isAgg229
 z171:=sizeOf229
 v171:=zeroValue229
 t173:=underlying231
 a173:=isAgg231
 z173:=sizeOf231
 v173:=zeroValue231
 t212:=underlying249
 a212:=isAgg249
 z212:=sizeOf249
 v212:=zeroValue249
 t213:=underlying250
 a213:=isAgg250
 z213:=sizeOf250
 t232:=underlying261
 a232:=isAgg261
 z232:=sizeOf261
 v232:=zeroValue261
 t233:=underlying228
 a233:=isAgg228
 z233:=sizeOf228
 v233:=zeroValue228
 g17:=by kernel_rfl
 g18:=by kernel_rfl
 g19:=by kernel_rfl
 i0:=by kernel_rfl
 i2:=by kernel_rfl
 i3:=by kernel_rfl
 i4:=by kernel_rfl
 i5:=by kernel_rfl
 i9:=by kernel_rfl
 i20:=by kernel_rfl
 i37:=by kernel_rfl
 i46:=by kernel_rfl
 i51:=by kernel_rfl
 i53:=by kernel_rfl
 i171:=by kernel_rfl
 i173:=by kernel_rfl
 i212:=by kernel_rfl
 i232:=by kernel_rfl
 i233:=by kernel_rfl
 m17:=by kernel_rfl
 m18:=by kernel_rfl
 m19:=by kernel_rfl}
open Go.RowKit Go.Sort Go.Lib in
theorem Tryz.strconv_Itoa (n:Int) (h0:-9223372036854775808<=n) (h1:n<=9223372036854775807) (w:World) (htab:Lib.TabIs prog w "internal/strconv.uint64pow10" .u64 Lib.pow10Tab):
 Calls prog 145 #[.int .i64 n] w fun e w'=>e=.returned (.string ⟨(Lib.itoa n).toArray⟩)/\∃k os,w'=grow (w.drewN k) os:=Any.strconv_Itoa laysM171 n h0 h1 w htab
def Tryz.laysC172_ren:Go.Shelf.Ren:=⟨fun| 172=>108| 244=>141| 245=>142| 247=>166| 279=>167| 280=>168| 281=>169| 282=>170| 287=>149| 316=>189| 171=>145| 205=>190| 321=>176| 322=>177| 243=>174| 246=>191| 283=>195| 284=>196| 285=>197| 286=>198| 129=>150| 317=>209| 318=>210| 319=>211| 320=>212| 337=>219| 338=>181|n=>n,fun| 9=>9| 3=>3| 75=>150| 76=>151| 4=>4| 5=>5| 167=>202| 37=>119| 0=>0| 85=>203| 2=>2| 168=>205| 53=>72| 175=>164| 46=>194| 210=>225| 127=>241| 145=>244| 143=>242| 21=>21| 171=>229| 173=>231| 212=>249| 51=>245| 20=>20| 213=>250| 232=>261| 233=>228| 80=>157|n=>n,fun| 15=>4| 16=>5| 17=>7| 18=>8| 19=>6|n=>n⟩
theorem Tryz.laysC172:Go.Proofs.LaysC.n172 prog laysC172_ren:={
 mixed:=by kernel_rfl
 f129:=fx func150 (by kernel_rfl)
 f171:=fx func145 (by kernel_rfl)
 f172:=fx func108 (by kernel_rfl)
 f205:=fx func190 (by kernel_rfl)
 f243:=fx func174 (by kernel_rfl)
 f244:=fx func141 (by kernel_rfl)
 f245:=fx func142 (by kernel_rfl)
 f246:=fx func191 (by kernel_rfl)
 f247:=fx func166 (by kernel_rfl)
 f279:=fx func167 (by kernel_rfl)
 f280:=fx func168 (by kernel_rfl)
 f281:=fx func169 (by kernel_rfl)
 f282:=fx func170 (by kernel_rfl)
 f283:=fx func195 (by kernel_rfl)
 f284:=fx func196 (by kernel_rfl)
 f285:=fx func197 (by kernel_rfl)
 f286:=fx func198 (by kernel_rfl)
 f287:=fx func149 (by kernel_rfl)
 f316:=fx func189 (by kernel_rfl)
 f317:=fx func209 (by kernel_rfl)
 f318:=fx func210 (by kernel_rfl)
 f319:=fx func211 (by kernel_rfl)
 f320:=fx func212 (by kernel_rfl)
 f321:=fx func176 (by kernel_rfl)
 f322:=fx func177 (by kernel_rfl)
 f337:=fx func219 (by kernel_rfl)
 f338:=fx func181 (by kernel_rfl)
 t0:=underlying0
 a0:=isAgg0
 z0:=sizeOf0
 v0:=zeroValue0
 t2:=underlying2
 a2:=isAgg2
 z2:=sizeOf2
 v2:=zeroValue2
 t3:=underlying3
 a3:=isAgg3
 z3:=sizeOf3
 v3:=zeroValue3
 t4:=underlying4
 a4:=isAgg4
 z4:=sizeOf4
 v4:=zeroValue4
 t5:=underlying5
 a5:=isAgg5
 z5:=sizeOf5
 v5:=zeroValue5
 t9:=underlying9
 a9:=isAgg9
 z9:=sizeOf9
 v9:=zeroValue9
 t20:=underlying20
 a20:=isAgg20
 z20:=sizeOf20
 v20:=zeroValue20
 t21:=underlying21
 a21:=isAgg21
 z21:=sizeOf21
 v21:=zeroValue21
 t37:=underlying119
 a37:=isAgg119
 z37:=sizeOf119
 v37:=zeroValue119
 t46:=underlying194
 a46:=isAgg194
 z46:=sizeOf194
 v46:=zeroValue194
 t51:=underlying245
 a51:=isAgg245
 z51:=sizeOf245
 v51:=zeroValue245
 t53:=underlying72
 a53:=isAgg72
 z53:=sizeOf72
 v53:=zeroValue72
 t75:=underlying150
 a75:=isAgg150
 z75:=sizeOf150
 v75:=zeroValue150
 t76:=underlying151
 a76:=isAgg151
 z76:=sizeOf151
 v76:=zeroValue151
 t85:=underlying203
 a85:=isAgg203
 z85:=sizeOf203
 v85:=zeroValue203
 t127:=underlying241
 a127:=isAgg241
 z127:=sizeOf241
 v127:=zeroValue241
 t143:=underlying242
 a143:=isAgg242
 z143:=sizeOf242
 v143:=zeroValue242
 t145:=underlying244
 a145:=isAgg244
 z145:=sizeOf244
 v145:=zeroValue244
 t167:=underlying202
 a167:=isAgg202
 z167:=sizeOf202
 v167:=zeroValue202
 t168:=underlying205
 a168:=isAgg205
 z168:=sizeOf205
 v168:=zeroValue205
 t171:=underlying229
 a171:=isAgg229
 z171:=sizeOf229
 v171:=zeroValue229
 t173:=underlying231
 a173:=isAgg231
 z173:=sizeOf231
 v173:=zeroValue231
 t175:=underlying164
 a175:=isAgg164
 z175:=sizeOf164
 v175:=zeroValue164
 t210:=underlying225
 a210:=isAgg225
 z210:=sizeOf225
 v210:=zeroValue225
 t212:=underlying249
 a212:=isAgg249
 z212:=sizeOf249
 v212:=zeroValue249
 t213:=underlying250
 a213:=isAgg250
 z213:=sizeOf250
 t232:=underlying261
 a232:=isAgg261
 z232:=sizeOf261
 v232:=zeroValue261
 t233:=underlying228
 a233:=isAgg228
 z233:=sizeOf228
 v233:=zeroValue228
 g15:=by kernel_rfl
 g16:=by kernel_rfl
 g17:=by kernel_rfl
 g18:=by kernel_rfl
 g19:=by kernel_rfl
 t80:=underlying157
 a80:=isAgg157
 z80:=sizeOf157
 v80:=zeroValue157
 i0:=by kernel_rfl
 i2:=by kernel_rfl
 i3:=by kernel_rfl
 i4:=by kernel_rfl
 i5:=by kernel_rfl
 i9:=by kernel_rfl
 i20:=by kernel_rfl
 i21:=by kernel_rfl
 i37:=by kernel_rfl
 i46:=by kernel_rfl
 i51:=by kernel_rfl
 i53:=by kernel_rfl
 i75:=by kernel_rfl
 i76:=by kernel_rfl
 i80:=by kernel_rfl
 i85:=by kernel_rfl
 i127:=by kernel_rfl
 i143:=by kernel_rfl
 i145:=by kernel_rfl
 i167:=by kernel_rfl
 i168:=by kernel_rfl
 i171:=by kernel_rfl
 i173:=by kernel_rfl
 i175:=by kernel_rfl
 i210:=by kernel_rfl
 i212:=by kernel_rfl
 i232:=by kernel_rfl
 i233:=by kernel_rfl
 m15:=by kernel_rfl
 m16:=by kernel_rfl
 m17:=by kernel_rfl
 m18:=by kernel_rfl
 m19:=by kernel_rfl
 c0:=by kernel_rfl
 c2:=by kernel_rfl
 c3:=by kernel_rfl
 c4:=by kernel_rfl
 c5:=by kernel_rfl
 c9:=by kernel_rfl
 c20:=by kernel_rfl
 c21:=by kernel_rfl
 c37:=by kernel_rfl
 c46:=by kernel_rfl
 c51:=by kernel_rfl
 c53:=by kernel_rfl
 c75:=by kernel_rfl
 c76:=by kernel_rfl
 c80:=by kernel_rfl
 c85:=by kernel_rfl
 c127:=by kernel_rfl
 c143:=by kernel_rfl
 c145:=by kernel_rfl
 c167:=by kernel_rfl
 c168:=by kernel_rfl
 c171:=by kernel_rfl
 c173:=by kernel_rfl
 c175:=by kernel_rfl
 c210:=by kernel_rfl
 c212:=by kernel_rfl
 c213:=by kernel_rfl
 c232:=by kernel_rfl
 c233:=by kernel_rfl}
def Tryz.badI:Lib.NumEnd Int:=Lib.atoiAll []
def Tryz.badN:Lib.NumEnd Nat:=Lib.parseUintB 64 []
open Go.RowKit in
theorem Tryz.strconv_Atoi_ok (s:ByteArray) (hmax:s.size<=9223372036854775806) (v:Int) (h:Lib.atoiAll s.data.toList=.ok v) (w:World):
 Calls prog 108 #[.string s] w fun e w'=>e=.returned (.tuple #[.int .i64 v,.nilIface])/\(w'=w\/∃t,w'=Lib.bytesWorld w 5 t):=Any.strconv_Atoi_ok laysC172 s hmax v h w
open Go.RowKit in
theorem Tryz.strconv_Atoi_syntax (s:ByteArray) (hlim:s.size<=281474976710656) (h:Lib.atoiAll s.data.toList=badI) (ev:Value) (w:World) (hv:w.cell? ⟨4,0,none⟩=some ev) (hev:ev=.nilIface\/∃te pe,ev=.iface te pe):
 Calls prog 108 #[.string s] w fun e w'=>∃N,e=.returned (.tuple #[.int .i64 (0),.iface 205 (.pointer (some ⟨N,0,none⟩))])/\w.heap.size<=N/\w'.heap[N]? =some (.cells #[.string ⟨#[65,116,111,105]⟩,.string s,ev] 225 (0,0))/\Below w.heap.size w w':=Any.strconv_Atoi_syntax laysC172 s hlim h ev w hv hev
open Go.RowKit in
theorem Tryz.strconv_Atoi_range (s:ByteArray) (hlim:s.size<=281474976710656) (h:Lib.atoiAll s.data.toList=.range) (ev:Value) (w:World) (hv:w.cell? ⟨5,0,none⟩=some ev) (hev:ev=.nilIface\/∃te pe,ev=.iface te pe):
 Calls prog 108 #[.string s] w fun e w'=>∃N,e=.returned (.tuple #[.int .i64 (Lib.atoiSat s.data.toList),.iface 205 (.pointer (some ⟨N,0,none⟩))])/\w.heap.size<=N/\w'.heap[N]? =some (.cells #[.string ⟨#[65,116,111,105]⟩,.string s,ev] 225 (0,0))/\Below w.heap.size w w':=Any.strconv_Atoi_range laysC172 s hlim h ev w hv hev
def Tryz.laysPu14_ren:Go.Shelf.Ren:=⟨fun| 14=>118| 16=>149| 17=>142| 19=>176| 20=>177| 21=>167| 22=>168| 23=>169| 24=>170| 25=>189| 27=>145| 26=>190| 28=>174| 29=>191| 30=>195| 31=>196| 32=>197| 33=>198| 35=>150| 34=>209| 36=>210| 37=>211| 38=>212| 39=>219| 40=>181|n=>n,fun| 9=>9| 3=>3| 22=>72| 24=>150| 25=>164| 4=>4| 34=>202| 5=>5| 36=>194| 37=>119| 0=>0| 39=>205| 21=>21| 44=>225| 47=>241| 50=>244| 48=>242| 2=>2| 52=>229| 55=>231| 59=>249| 60=>245| 20=>20| 61=>250| 65=>261| 66=>228| 67=>157|n=>n,fun| 0=>4| 1=>5| 2=>7| 3=>8| 4=>6|n=>n⟩
theorem Tryz.laysPu14:Go.Proofs.LaysPu.n14 prog laysPu14_ren:={
 mixed:=by kernel_rfl
 f14:=fx func118 (by kernel_rfl)
 f16:=fx func149 (by kernel_rfl)
 f17:=fx func142 (by kernel_rfl)
 f19:=fx func176 (by kernel_rfl)
 f20:=fx func177 (by kernel_rfl)
 f21:=fx func167 (by kernel_rfl)
 f22:=fx func168 (by kernel_rfl)
 f23:=fx func169 (by kernel_rfl)
 f24:=fx func170 (by kernel_rfl)
 f25:=fx func189 (by kernel_rfl)
 f26:=fx func190 (by kernel_rfl)
 f27:=fx func145 (by kernel_rfl)
 f28:=fx func174 (by kernel_rfl)
 f29:=fx func191 (by kernel_rfl)
 f30:=fx func195 (by kernel_rfl)
 f31:=fx func196 (by kernel_rfl)
 f32:=fx func197 (by kernel_rfl)
 f33:=fx func198 (by kernel_rfl)
 f34:=fx func209 (by kernel_rfl)
 f35:=fx func150 (by kernel_rfl)
 f36:=fx func210 (by kernel_rfl)
 f37:=fx func211 (by kernel_rfl)
 f38:=fx func212 (by kernel_rfl)
 f39:=fx func219 (by kernel_rfl)
 f40:=fx func181 (by kernel_rfl)
 t0:=underlying0
 a0:=isAgg0
 z0:=sizeOf0
 v0:=zeroValue0
 i0:=by kernel_rfl
 t2:=underlying2
 a2:=isAgg2
 z2:=sizeOf2
 v2:=zeroValue2
 i2:=by kernel_rfl
 t3:=underlying3
 a3:=isAgg3
 z3:=sizeOf3
 v3:=zeroValue3
 i3:=by kernel_rfl
 t4:=underlying4
 a4:=isAgg4
 z4:=sizeOf4
 v4:=zeroValue4
 i4:=by kernel_rfl
 t5:=underlying5
 a5:=isAgg5
 z5:=sizeOf5
 v5:=zeroValue5
 i5:=by kernel_rfl
 t9:=underlying9
 a9:=isAgg9
 z9:=sizeOf9
 v9:=zeroValue9
 i9:=by kernel_rfl
 t20:=underlying20
 a20:=isAgg20
 z20:=sizeOf20
 v20:=zeroValue20
 i20:=by kernel_rfl
 t21:=underlying21
 a21:=isAgg21
 z21:=sizeOf21
 v21:=zeroValue21
 i21:=by kernel_rfl
 t22:=underlying72
 a22:=isAgg72
 z22:=sizeOf72
 v22:=zeroValue72
 i22:=by kernel_rfl
 t24:=underlying150
 a24:=isAgg150
 z24:=sizeOf150
 v24:=zeroValue150
 i24:=by kernel_rfl
 t25:=underlying164
 a25:=isAgg164
 z25:=sizeOf164
 v25:=zeroValue164
 i25:=by kernel_rfl
 t34:=underlying202
 a34:=isAgg202
 z34:=sizeOf202
 v34:=zeroValue202
 i34:=by kernel_rfl
 c34:=by kernel_rfl
 t36:=underlying194
 a36:=isAgg194
 z36:=sizeOf194
 v36:=zeroValue194
 i36:=by kernel_rfl
 t37:=underlying119
 a37:=isAgg119
 z37:=sizeOf119
 v37:=zeroValue119
 i37:=by kernel_rfl
 t39:=underlying205
 a39:=isAgg205
 z39:=sizeOf205
 v39:=zeroValue205
 i39:=by kernel_rfl
 t44:=underlying225
 a44:=isAgg225
 z44:=sizeOf225
 v44:=zeroValue225
 i44:=by kernel_rfl
 t47:=underlying241
 a47:=isAgg241
 z47:=sizeOf241
 v47:=zeroValue241
 i47:=by kernel_rfl
 t48:=underlying242
 a48:=isAgg242
 z48:=sizeOf242
 v48:=zeroValue242
 i48:=by kernel_rfl
 t50:=underlying244
 a50:=isAgg244
 z50:=sizeOf244
 v50:=zeroValue244
 i50:=by kernel_rfl
 t52:=underlying229
 a52:=isAgg229
 z52:=sizeOf229
 v52:=zeroValue229
 i52:=by kernel_rfl
 t55:=underlying231
 a55:=isAgg231
 z55:=sizeOf231
 v55:=zeroValue231
 i55:=by kernel_rfl
 t59:=underlying249
 a59:=isAgg249
 z59:=sizeOf249
 v59:=zeroValue249
 i59:=by kernel_rfl
 t60:=underlying245
 a60:=isAgg245
 z60:=sizeOf245
 v60:=zeroValue245
 i60:=by kernel_rfl
 t61:=underlying250
 a61:=isAgg250
 z61:=sizeOf250
 t65:=underlying261
 a65:=isAgg261
 z65:=sizeOf261
 v65:=zeroValue261
 i65:=by kernel_rfl
 t66:=underlying228
 a66:=isAgg228
 z66:=sizeOf228
 v66:=zeroValue228
 i66:=by kernel_rfl
 t67:=underlying157
 a67:=isAgg157
 z67:=sizeOf157
 v67:=zeroValue157
 i67:=by kernel_rfl
 g0:=by kernel_rfl
 m0:=by kernel_rfl
 g1:=by kernel_rfl
 m1:=by kernel_rfl
 g2:=by kernel_rfl
 m2:=by kernel_rfl
 g3:=by kernel_rfl
 m3:=by kernel_rfl
 g4:=by kernel_rfl
 m4:=by kernel_rfl}
open Go.RowKit in
theorem Tryz.strconv_ParseUint_10_at64_ok (s:ByteArray) (hmax:s.size<=9223372036854775806) (u:Nat) (h:Lib.parseUintB 64 s.data.toList=.ok u) (w:World):
 Calls prog 118 #[.string s,.int .i64 10,.int .i64 64] w fun e w'=>e=.returned (.tuple #[.int .u64 u,.nilIface])/\(w'=w\/w'=Lib.bytesWorld w 5 s):=Any.strconv_ParseUint_10_at64_ok laysPu14 s hmax u h w
open Go.RowKit in
theorem Tryz.strconv_ParseUint_10_at64_syntax (s:ByteArray) (hlim:s.size<=281474976710656) (h:Lib.parseUintB 64 s.data.toList=badN) (ev:Value) (w:World) (hv:w.cell? ⟨4,0,none⟩=some ev) (hev:ev=.nilIface\/∃te pe,ev=.iface te pe):
 Calls prog 118 #[.string s,.int .i64 10,.int .i64 64] w fun e w'=>∃N,e=.returned (.tuple #[.int .u64 0,.iface 205 (.pointer (some ⟨N,0,none⟩))])/\w.heap.size<=N/\w'.heap[N]? =some (.cells #[.string ⟨#[80,97,114,115,101,85,105,110,116]⟩,.string s,ev] 225 (0,0))/\Below w.heap.size w w':=Any.strconv_ParseUint_10_at64_syntax laysPu14 s hlim h ev w hv hev
open Go.RowKit in
theorem Tryz.strconv_ParseUint_10_at64_range (s:ByteArray) (hlim:s.size<=281474976710656) (h:Lib.parseUintB 64 s.data.toList=.range) (ev:Value) (w:World) (hv:w.cell? ⟨5,0,none⟩=some ev) (hev:ev=.nilIface\/∃te pe,ev=.iface te pe):
 Calls prog 118 #[.string s,.int .i64 10,.int .i64 64] w fun e w'=>∃N,e=.returned (.tuple #[.int .u64 18446744073709551615,.iface 205 (.pointer (some ⟨N,0,none⟩))])/\w.heap.size<=N/\w'.heap[N]? =some (.cells #[.string ⟨#[80,97,114,115,101,85,105,110,116]⟩,.string s,ev] 225 (0,0))/\Below w.heap.size w w':=Any.strconv_ParseUint_10_at64_range laysPu14 s hlim h ev w hv hev
def Tryz.lays101_ren:Go.Shelf.Ren:=⟨fun| 101=>109| 208=>143| 206=>171|n=>n,fun| 9=>9| 4=>4| 3=>3|n=>n,fun|n=>n⟩
theorem Tryz.lays101:Go.Proofs.Lays.n101 prog lays101_ren:={
 mixed:=by kernel_rfl
 f101:=fx func109 (by kernel_rfl)
 f206:=fx func171 (by kernel_rfl)
 f208:=fx func143 (by kernel_rfl)
 t3:=underlying3
 a3:=isAgg3
 z3:=sizeOf3
 v3:=zeroValue3
 t4:=underlying4
 a4:=isAgg4
 z4:=sizeOf4
 v4:=zeroValue4
 t9:=underlying9
 a9:=isAgg9
 z9:=sizeOf9
 v9:=zeroValue9}
open Go.RowKit Go.Lib in
theorem Tryz.strings_TrimPrefix (s p:ByteArray) (w:World):
 Calls prog 109 #[.string s,.string p] w fun e w'=>e=.returned (.string ⟨(Lib.trimPrefix s.data.toList p.data.toList).toArray⟩)/\w'=w:=Any.strings_TrimPrefix lays101 s p w
def Tryz.lays105_ren:Go.Shelf.Ren:=⟨fun| 105=>184| 212=>199| 99=>200| 165=>201| 166=>202| 170=>203| 169=>204| 263=>213| 264=>214| 206=>171| 240=>215| 241=>216| 276=>220| 277=>221|n=>n,fun| 9=>9| 3=>3| 4=>4| 20=>20| 0=>0| 46=>194| 109=>233| 5=>5| 72=>237| 76=>151| 51=>245| 146=>246| 53=>72| 148=>253| 70=>235| 37=>119| 75=>150| 127=>241| 164=>257| 80=>157|n=>n,fun|n=>n⟩
theorem Tryz.lays105:Go.Proofs.Lays.n105 prog lays105_ren:={
 mixed:=by kernel_rfl
 f99:=fx func200 (by kernel_rfl)
 f105:=fx func184 (by kernel_rfl)
 f165:=fx func201 (by kernel_rfl)
 f166:=fx func202 (by kernel_rfl)
 f169:=fx func204 (by kernel_rfl)
 f170:=fx func203 (by kernel_rfl)
 f206:=fx func171 (by kernel_rfl)
 f212:=fx func199 (by kernel_rfl)
 f240:=fx func215 (by kernel_rfl)
 f241:=fx func216 (by kernel_rfl)
 f263:=fx func213 (by kernel_rfl)
 f264:=fx func214 (by kernel_rfl)
 f276:=fx func220 (by kernel_rfl)
 f277:=fx func221 (by kernel_rfl)
 t0:=underlying0
 a0:=isAgg0
 z0:=sizeOf0
 v0:=zeroValue0
 t3:=underlying3
 a3:=isAgg3
 z3:=sizeOf3
 v3:=zeroValue3
 t4:=underlying4
 a4:=isAgg4
 z4:=sizeOf4
 v4:=zeroValue4
 t5:=underlying5
 a5:=isAgg5
 z5:=sizeOf5
 v5:=zeroValue5
 t9:=underlying9
 a9:=isAgg9
 z9:=sizeOf9
 v9:=zeroValue9
 t20:=underlying20
 a20:=isAgg20
 z20:=sizeOf20
 v20:=zeroValue20
 t37:=underlying119
 a37:=isAgg119
 z37:=sizeOf119
 v37:=zeroValue119
 t46:=underlying194
 a46:=isAgg194
 z46:=sizeOf194
 v46:=zeroValue194
 t51:=underlying245
 a51:=isAgg245
 z51:=sizeOf245
 v51:=zeroValue245
 t53:=underlying72
 a53:=isAgg72
 z53:=sizeOf72
 v53:=zeroValue72
 t70:=underlying235
 a70:=isAgg235
 z70:=sizeOf235
 v70:=zeroValue235
 t72:=underlying237
 a72:=isAgg237
 z72:=sizeOf237
 v72:=zeroValue237
 t75:=underlying150
 a75:=isAgg150
 z75:=sizeOf150
 v75:=zeroValue150
 t76:=underlying151
 a76:=isAgg151
 z76:=sizeOf151
 v76:=zeroValue151
 t109:=underlying233
 a109:=isAgg233
 z109:=sizeOf233
 v109:=zeroValue233
 t127:=underlying241
 a127:=isAgg241
 z127:=sizeOf241
 v127:=zeroValue241
 t146:=underlying246
 a146:=isAgg246
 z146:=sizeOf246
 v146:=zeroValue246
 t148:=underlying253
 a148:=isAgg253
 z148:=sizeOf253
 v148:=zeroValue253
 t164:=underlying257
 a164:=isAgg257
 z164:=sizeOf257
 v164:=zeroValue257}
theorem Tryz.Builder_Extra_105:Builder.Extra prog lays105_ren:={
 sizeBuilder:=by kernel_rfl
 liesBuilder:=by kernel_rfl
 t5:=underlying5
 a5:=isAgg5
 z5:=sizeOf5
 v5:=zeroValue5
 infoByte:=by kernel_rfl
 cellsByte:=by kernel_rfl
 sizeByte:=by kernel_rfl
 neB5:=by decide}
open Go.RowKit Go.Lib in
theorem Tryz.strings_Repeat (s:ByteArray) (c:Nat) (w:World) (hc:c<=9223372036854775807) (hlen:s.size*c<=140737488355328):
 Calls prog 184 #[.string s,.int .i64 c] w fun e w'=>e=.returned (.string ⟨(Lib.repeatL s.data.toList c).toArray⟩)/\Below w.heap.size w w':=Any.strings_Repeat lays105 Builder_Extra_105 s c w hc hlen
def Tryz.lays197_ren:Go.Shelf.Ren:=⟨fun| 197=>91| 260=>123|n=>n,fun| 9=>9| 21=>21| 3=>3| 4=>4| 5=>5| 105=>131| 119=>193| 0=>0| 46=>194| 139=>197| 138=>196|n=>n,fun| 3=>1| 4=>2|n=>n⟩
theorem Tryz.lays197:Go.Proofs.Lays.n197 prog lays197_ren:={
 mixed:=by kernel_rfl
 f197:=fx func91 (by kernel_rfl)
 f260:=fx func123 (by kernel_rfl)
 t0:=underlying0
 a0:=isAgg0
 z0:=sizeOf0
 v0:=zeroValue0
 t3:=underlying3
 a3:=isAgg3
 z3:=sizeOf3
 v3:=zeroValue3
 t4:=underlying4
 a4:=isAgg4
 z4:=sizeOf4
 v4:=zeroValue4
 t5:=underlying5
 a5:=isAgg5
 z5:=sizeOf5
 v5:=zeroValue5
 t9:=underlying9
 a9:=isAgg9
 z9:=sizeOf9
 v9:=zeroValue9
 t21:=underlying21
 a21:=isAgg21
 z21:=sizeOf21
 v21:=zeroValue21
 t46:=underlying194
 a46:=isAgg194
 z46:=sizeOf194
 v46:=zeroValue194
 t105:=underlying131
 a105:=isAgg131
 z105:=sizeOf131
 v105:=zeroValue131
 t119:=underlying193
 a119:=isAgg193
 z119:=sizeOf193
 t138:=underlying196
 a138:=isAgg196
 z138:=sizeOf196
 v138:=zeroValue196
 t139:=underlying197
 a139:=isAgg197
 z139:=sizeOf197
 v139:=zeroValue197
 g3:=by kernel_rfl
 g4:=by kernel_rfl}
open Go.RowKit Go.Lib in
theorem Tryz.utf8_DecodeRuneInString (s:ByteArray) (w:World) (hT:Lib.Utf8Tabs 1 2 w):
 Calls prog 91 #[.string s] w fun e w'=>e=.returned (.tuple #[.int .i32 (Lib.decodeGo s).1,.int .i64 (Lib.decodeGo s).2])/\Below w.heap.size w w':=Any.utf8_DecodeRuneInString lays197 s w hT
end Go.Proofs

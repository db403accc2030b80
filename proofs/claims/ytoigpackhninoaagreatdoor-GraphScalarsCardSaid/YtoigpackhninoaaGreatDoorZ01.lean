/- Small lemmas used by all texts of this seat: slices that read as lists, blocks, appends, the row's last step. (Lemmas copied from the guide's pages of lemmas to copy.) Slices that read as lists of any element type: 'enc' writes an element as its cells, 'sz' is their number. -/
import Derived.Test.YtoigpackhninoaaGreatDoorRows
import Derived.WalkKit
import Derived.WalkSpells
import Derived.WalkLawsBesides
import Derived.Lib.Hide
import Derived.Handy
import Derived.Below
import Derived.Laws.OwnMore
import Derived.Deep.AppendLies
import Derived.Deep.Draws
import Derived.Maps.AppendAt
import Derived.RegionTactic
import Derived.OwnWalk
import Derived.ProofKit
import Derived.Deep.QuietTactic
import Derived.BigQuiet
import Derived.Deep.Slices
import Derived.Deep.Fields
namespace Go.Proofs.YtoigpackhninoaaGreatDoor
open Go.RowKit
theorem ret_bool {a b:Bool} (h:a=b):Ending.returned (.bool a)=.returned (.bool b):=by rw[h]
theorem ret_int {k:IntKind} {a b:Int} (h:a=b):Ending.returned (.int k a)=.returned (.int k b):=by rw[h]
theorem below_call {B:Nat} {w wr w1:World} (h:Below B w wr) (hz:B<=wr.heap.size) (h1:Below wr.heap.size wr w1):Below B w w1:=h.trans (h1.mono hz)
theorem block_of_add (a:Addr) (n:Nat):(a.add n).block=a.block:=by unfold Addr.add;split<;>rfl
theorem add_of_add (a:Addr) (i j:Nat):(a.add i).add j=a.add (i+j):=by
 unfold Addr.add;by_cases hi:i=0<;>by_cases hj:j=0<;>simp[hi,hj,Nat.add_assoc]
def Reads (w:World) (B size:Nat) (A:Option Addr) (n:Nat) (xs:List Value):Prop:=
 xs.length=n*size/\(0<n->∃ad,A=some ad/\ad.block<B/\∀j u,xs[j]? =some u->w.cell? (ad.add j)=some u)
section
variable {w w':World} {B B' size n:Nat} {A:Option Addr} {xs:List Value}
theorem Reads.none_:Reads w B size A 0 []:=⟨by simp,fun h=>absurd h (by omega)⟩
theorem Reads.at_ {k:Nat} (h:Reads w B 1 A n xs) (hk:k<n):∃ad u,A=some ad/\ad.block<B/\xs[k]? =some u/\w.cell? (ad.add k)=some u:=by
 obtain⟨ad,e,hb,hc⟩:=h.2 (by omega);have hl:k<xs.length:=by have:=h.1;omega
 exact⟨ad,xs[k],e,hb,List.getElem?_eq_getElem hl,hc k _ (List.getElem?_eq_getElem hl)⟩
theorem Reads.keep (h:Reads w B size A n xs) (hk:∀p:Addr,p.block<B->w'.cell? p=w.cell? p):Reads w' B size A n xs:=
 ⟨h.1,fun hn=>by
  obtain⟨ad,e,hb,hc⟩:=h.2 hn;exact⟨ad,e,hb,fun j u hu=>(hk _ (by rw[block_of_add];exact hb)).trans (hc j u hu)⟩⟩
theorem Reads.more (h:Reads w B size A n xs) (hB:B<=B'):Reads w B' size A n xs:=
 ⟨h.1,fun hn=>by
  obtain⟨ad,e,hb,hc⟩:=h.2 hn;exact⟨ad,e,by omega,hc⟩⟩
theorem Reads.below (h:Reads w B size A n xs) (hb:Below B w w'):Reads w' B size A n xs:=h.keep fun _ hp=>hb.cell hp
theorem Reads.drew (h:Reads w B size A n xs):Reads w.drew B size A n xs:=h
theorem Reads.drewN (h:Reads w B size A n xs) (k:Nat):Reads (w.drewN k) B size A n xs:=h
theorem Reads.alloc (h:Reads w B size A n xs) (hB:B<=w.heap.size) (o:Obj):Reads (w.alloc o) B size A n xs:=h.keep fun p hp=>World.cell?_alloc_lt w o p (by omega)
theorem Reads.setCell (h:Reads w B size A n xs) {p:Addr} (hB:B<=p.block) (u:Value):Reads (w.setCell p u) B size A n xs:=
 h.keep fun q hq=>World.cell?_setCell_other w p q u (fun e=>by subst e;omega)
theorem Reads.grown (h:Reads w B size A n xs) {row:Option Nat} (hg:w.grownBy w' row) (hB:B<=w.heap.size) (hr:∀g,row=some g->B<=g):Reads w' B size A n xs:=
 h.keep fun p hp=>World.cell?_of_block (hg.block p.block (by omega) (fun e=>by have:=hr _ e.symm;omega))
theorem Reads.cut (h:Reads w B size A n xs) {k cap:Nat} (hk:k<=n) (hc:n<=cap):
 Reads w B size (if cap=k then A else A.map (·.add (k*size))) (n-k) (xs.drop (k*size)):=by
 refine⟨by rw[List.length_drop,h.1,Nat.sub_mul],fun hn=>?_⟩;obtain⟨ad,rfl,hb,hcell⟩:=h.2 (by omega);rw[if_neg (by omega)];refine⟨ad.add (k*size),rfl,by rw[block_of_add];exact hb,fun j u hu=>?_⟩;rw[add_of_add];exact hcell _ u (by rw[<-hu,List.getElem?_drop])
theorem Reads.of_own {base:Nat} {e:TypeId} {c:Nat} (h:w.ownsRow base e size (.slice A n c) n xs):Reads w w.heap.size size A n xs:=by
 refine⟨h.1,fun hn=>?_⟩;obtain⟨g,cap,hv,_,hlt⟩:=h.form hn;have hA:A=some ⟨g,0,none⟩:=by injection hv
 subst hA;exact⟨_,rfl,hlt,h.cells (g:=g) rfl⟩
end
def Blk (w:World) (g:Nat) (t:TypeId) (cs:Array Value):Prop:=w.heap[g]? =some (.cells cs t (0,0))
section
variable {w w':World} {g:Nat} {t:TypeId} {cs:Array Value}
theorem Blk.lt (h:Blk w g t cs):g<w.heap.size:=by
 rcases Nat.lt_or_ge g w.heap.size with hlt|hge
 ·exact hlt
 ·unfold Blk at h;rw[Array.getElem?_eq_none hge]at h;cases h
theorem Blk.cell (h:Blk w g t cs) (i:Nat):w.cell? ⟨g,i,none⟩=cs[i]? :=cell_of_row w g i cs t (0,0) h
theorem Blk.frozen (h:Blk w g t cs) (i:Nat):w.frozen? ⟨g,i,none⟩=false:=by
 unfold Blk at h;simp[World.frozen?,h]
theorem Blk.new (w:World) (t:TypeId) (cs:Array Value):Blk (w.alloc (.cells cs t)) w.heap.size t cs:=heap_alloc_new w _
theorem Blk.drew (h:Blk w g t cs):Blk w.drew g t cs:=h
theorem Blk.drewN (h:Blk w g t cs) (n:Nat):Blk (w.drewN n) g t cs:=h
theorem Blk.alloc (h:Blk w g t cs) (o:Obj):Blk (w.alloc o) g t cs:=(Below.heap_alloc w o g h.lt).trans h
theorem Blk.set_ (h:Blk w g t cs) (i:Nat) (u:Value):Blk (w.setCell ⟨g,i,none⟩ u) g t (cs.setIfInBounds i u):=by
 unfold Blk at h ⊢;simp[World.setCell,Array.getElem?_modify,h]
theorem Blk.far (h:Blk w g t cs) {p:Addr} (hp:g≠p.block) (u:Value):Blk (w.setCell p u) g t cs:=(Below.heap_setCell w p u g hp).trans h
theorem Blk.below {B:Nat} (h:Blk w g t cs) (hb:Below B w w') (hg:g<B):Blk w' g t cs:=(hb.block g hg).trans h
theorem Blk.grown {row:Option Nat} (h:Blk w g t cs) (hb:w.grownBy w' row) (hg:some g≠row):Blk w' g t cs:=(hb.block g h.lt hg).trans h
theorem Blk.ne_ {g':Nat} {t':TypeId} {cs':Array Value} (h:Blk w g t cs) (h':Blk w g' t' cs') (hne:t≠t'):g≠g':=by
 rintro rfl;unfold Blk at h h';rw[h]at h';injection h' with h'
 injection h' with _ ht
 exact hne ht
theorem own_blk_ne {base:Nat} {e:TypeId} {size n:Nat} {v:Value} {xs:List Value} (h:w.ownsRow base e size v n xs) (hg:Blk w g t cs) (hne:e≠t):v.ownBlock≠some g:=by
 rcases h.2 with⟨rfl,_⟩|⟨g',cap,cur,rfl,_,hh,_⟩
 ·simp[Value.ownBlock]
 ·intro he;have:g'=g:=by simpa[Value.ownBlock]using he
  subst this;exact Blk.ne_ (t:=e) hh hg hne rfl
end
section
variable {P:Program} (w:World)
theorem run_append_of_nil (base:Nat) (t ty e:TypeId) (i:TypeInfo) (size:Nat) (ht:P.underlying t=some (.slice e)) (hi:P.info? e=some i)
 (v:Value) (n:Nat) (xs:List Value) (hown:w.ownsRow base e size v n xs) (c:Nat):(Builtin.append_ #[t,t] ty #[v,.slice none 0 c]).run P w=.ok v w:=by
 rcases hown.2 with⟨rfl,rfl⟩|⟨g,cap,cur,rfl,_,_,hnc,_⟩
 ·simp[Builtin.append_,run_underlying ht,sizeOf,typeInfo,hi,Builtin.lenOf,Builtin.firstCells]
 ·simp[Builtin.append_,run_underlying ht,sizeOf,typeInfo,hi,Builtin.lenOf,Builtin.firstCells,hnc,storeCells]
theorem run_append_any (base:Nat) (t ty e:TypeId) (i:TypeInfo) (z:Value) (size bytes:Nat) (ht:P.underlying t=some (.slice e)) (hi:P.info? e=some i) (hz:i.zero=some z)
 (hsize:i.size=size) (hby:i.bytes=bytes) (hzs:z.cells.size=size) (hsz:0<size)
 (v:Value) (n:Nat) (xs:List Value) (hown:w.ownsRow base e size v n xs)
 (B:Nat) (A:Option Addr) (m c:Nat) (news:List Value) (hr:Reads w B size A m news) (h1:∀u∈news,u.oneCell'=true)
 (h63:n+m<=maxLen) (hbytes:(n+m)*bytes<=140737488355328) (hbase:base<=w.heap.size):
 ∃v' w',(Builtin.append_ #[t,t] ty #[v,.slice A m c]).run P w=.ok v' w'/\w'.ownsRow base e size v' (n+m) (xs++news)/\w.grownBy w' v.ownBlock/\
  (v'.ownBlock=v.ownBlock\/v'.ownBlock=some w.heap.size):=by
 rcases A with _|ad
 ·have hm:m=0:=by
   rcases Nat.eq_zero_or_pos m with h0|h0
   ·exact h0
   ·obtain⟨ad,h,_⟩:=hr.2 h0;cases h
  subst hm;have hn:news=[]:=List.eq_nil_of_length_eq_zero (by simpa using hr.1);subst hn;exact⟨v,w,run_append_of_nil w base t ty e i size ht hi v n xs hown c,by simpa using hown,World.grownBy.refl w _,.inl rfl⟩
 ·have hcells:∀j u,news[j]? =some u->w.cell? (ad.add j)=some u:=by
   intro j u hu;rcases Nat.eq_zero_or_pos m with h0|h0
   ·subst h0;have hn:news=[]:=List.eq_nil_of_length_eq_zero (by simpa using hr.1);subst hn;simp at hu
   ·obtain⟨ad',h,_,hc⟩:=hr.2 h0;injection h with h
    subst h;exact hc j u hu
  obtain⟨v',w',hrun,h2,h3,_,h5⟩:=run_append_own_at (P:=P) w base t ty e i z size bytes ht hi hz hsize hby hzs hsz v n xs hown ad m c news hr.1 hcells h1 h63 hbytes hbase;exact⟨v',w',hrun,h2,h3,h5⟩
theorem wp_append_any {o:Oper} {a:Act} {K:Act->World->Prop} {Q:Exit->Act->World->Prop} (s x:Operand) (t:TypeId)
 (ho:o.op=.call {callee:=.builtin .append,args:=#[s,x],argTypes:=#[t,t]})
 (base:Nat) (e:TypeId) (i:TypeInfo) (z:Value) (size bytes:Nat) (ht:P.underlying t=some (.slice e)) (hi:P.info? e=some i) (hz:i.zero=some z)
 (hsize:i.size=size) (hby:i.bytes=bytes) (hzs:z.cells.size=size) (hsz:0<size)
 (v:Value) (n:Nat) (xs:List Value) (hs:a.eval s=v) (hown:w.ownsRow base e size v n xs)
 (B:Nat) (A:Option Addr) (m c:Nat) (news:List Value) (hx:a.eval x=.slice A m c) (hr:Reads w B size A m news) (h1:∀u∈news,u.oneCell'=true)
 (h63:n+m<=maxLen) (hbytes:(n+m)*bytes<=140737488355328) (hbase:base<=w.heap.size)
 (h:∀v' w',w'.ownsRow base e size v' (n+m) (xs++news)->w.grownBy w' v.ownBlock->(v'.ownBlock=v.ownBlock\/v'.ownBlock=some w.heap.size)->K (a.put o.dst v') w'):o.wp P a w K Q:=by
 obtain⟨v',w',hrun,h2,h3,h4⟩:=run_append_any (P:=P) w base t o.type e i z size bytes ht hi hz hsize hby hzs hsz v n xs hown B A m c news hr h1 h63 hbytes hbase;unfold Oper.wp execOp;simp only[ho,resolve,invoke,builtin,Sem.run_bind,Sem.run_pure,Result.andThen_ok,List.map_toArray,List.map_cons,List.map_nil,hs,hx,hrun];exact h v' w' h2 h3 h4
theorem wpList_append_any {ops:Array Oper} {rest:List Oper} {o:Oper} {a:Act} {Q:Exit->Act->World->Prop} (hgd:o.guard=none) (s x:Operand) (t:TypeId)
 (ho:o.op=.call {callee:=.builtin .append,args:=#[s,x],argTypes:=#[t,t]})
 (base:Nat) (e:TypeId) (i:TypeInfo) (z:Value) (size bytes:Nat) (ht:P.underlying t=some (.slice e)) (hi:P.info? e=some i) (hz:i.zero=some z)
 (hsize:i.size=size) (hby:i.bytes=bytes) (hzs:z.cells.size=size) (hsz:0<size)
 (v:Value) (n:Nat) (xs:List Value) (hs:a.eval s=v) (hown:w.ownsRow base e size v n xs)
 (B:Nat) (A:Option Addr) (m c:Nat) (news:List Value) (hx:a.eval x=.slice A m c) (hr:Reads w B size A m news) (h1:∀u∈news,u.oneCell'=true)
 (h63:n+m<=maxLen) (hbytes:(n+m)*bytes<=140737488355328) (hbase:base<=w.heap.size)
 (h:∀v' w',w'.ownsRow base e size v' (n+m) (xs++news)->w.grownBy w' v.ownBlock->(v'.ownBlock=v.ownBlock\/v'.ownBlock=some w.heap.size)->wpList P ops Q rest (a.put o.dst v') w'):wpList P ops Q (o::rest) a w:=
 wpList_plain hgd fun _ hK=>wp_append_any w s x t ho base e i z size bytes ht hi hz hsize hby hzs hsz v n xs hs hown B A m c news hx hr h1 h63 hbytes hbase fun v' w' h2 h3 h4=>hK _ _ (h v' w' h2 h3 h4)
theorem step_append_any {ops:Array Oper} {o:Oper} {a:Act} {K:Act->World->Prop} {Q:Exit->Act->World->Prop} {E:Prop} (hgd:o.guard=none) (s x:Operand) (t:TypeId)
 (ho:o.op=.call {callee:=.builtin .append,args:=#[s,x],argTypes:=#[t,t]})
 (base:Nat) (e:TypeId) (i:TypeInfo) (z:Value) (size bytes:Nat) (ht:P.underlying t=some (.slice e)) (hi:P.info? e=some i) (hz:i.zero=some z)
 (hsize:i.size=size) (hby:i.bytes=bytes) (hzs:z.cells.size=size) (hsz:0<size)
 (v:Value) (n:Nat) (xs:List Value) (hs:a.eval s=v) (hown:w.ownsRow base e size v n xs)
 (B:Nat) (A:Option Addr) (m c:Nat) (news:List Value) (hx:a.eval x=.slice A m c) (hr:Reads w B size A m news) (h1:∀u∈news,u.oneCell'=true)
 (h63:n+m<=maxLen) (hbytes:(n+m)*bytes<=140737488355328) (hbase:base<=w.heap.size)
 (h:∀v' w',w'.ownsRow base e size v' (n+m) (xs++news)->w.grownBy w' v.ownBlock->(v'.ownBlock=v.ownBlock\/v'.ownBlock=some w.heap.size)->K (a.put o.dst v') w'):
 if Region.wanted o (yielded ops a.tmps)=true then Oper.wp P o a w K Q else E:=by
 have hw:Region.wanted o (yielded ops a.tmps)=true:=by simp[Region.wanted,hgd]
 rw[if_pos hw];exact wp_append_any w s x t ho base e i z size bytes ht hi hz hsize hby hzs hsz v n xs hs hown B A m c news hx hr h1 h63 hbytes hbase h
end
end Go.Proofs.YtoigpackhninoaaGreatDoor
namespace Go.Proofs.YtoigpackhninoaaGreatDoor
open Go.RowKit
structure Lay (α:Type) where
 enc:α->List Value
 sz:Nat
 len:∀x,(enc x).length=sz
 one:∀x,∀u∈enc x,u.oneCell'=true
 pos:0<sz
section
variable {α:Type} (L:Lay α)
def Lay.all (l:List α):List Value:=l.flatMap L.enc
theorem Lay.all_len (l:List α):(L.all l).length=l.length*L.sz:=by
 induction l with
 |nil=>simp[Lay.all]
 |cons x l ih=>simp only[Lay.all,List.flatMap_cons,List.length_append,L.len,List.length_cons,Nat.add_mul,Nat.one_mul]at *;omega
theorem Lay.all_append (l r:List α):L.all (l++r)=L.all l++L.all r:=by simp[Lay.all]
theorem Lay.all_one (l:List α):∀u∈L.all l,u.oneCell'=true:=by
 intro u hu;simp only[Lay.all,List.mem_flatMap]at hu;obtain⟨x,_,hx⟩:=hu;exact L.one x u hx
theorem Lay.all_at (l:List α) (k:Nat) (x:α) (h:l[k]? =some x) (j:Nat) (u:Value) (hj:(L.enc x)[j]? =some u):(L.all l)[k*L.sz+j]? =some u:=by
 induction l generalizing k with
 |nil=>simp at h
 |cons y l ih=>
  have hjl:j<L.sz:=by
   have:=(List.getElem?_eq_some_iff.1 hj).1;rwa[L.len]at this
  cases k with
  |zero=>
   simp at h;subst h;simp only[Lay.all,List.flatMap_cons,Nat.zero_mul,Nat.zero_add];rw[List.getElem?_append_left (by rw[L.len];exact hjl)];exact hj
  |succ k=>
   simp at h;have:=ih k h;simp only[Lay.all,List.flatMap_cons]at this ⊢;rw[List.getElem?_append_right (by rw[L.len,Nat.add_mul];omega),L.len];rw[show(k+1)*L.sz+j-L.sz=k*L.sz+j from by rw[Nat.add_mul];omega];exact this
def RowAt (w:World) (B:Nat) (A:Option Addr) (l:List α):Prop:=Reads w B L.sz A l.length (L.all l)
def OwnRow (w:World) (base:Nat) (E:TypeId) (v:Value) (l:List α):Prop:=w.ownsRow base E L.sz v l.length (L.all l)
end
theorem add_pos_form' (a:Addr) (i j:Nat) (hj:0<j):a.add (i+j)={block:=(a.add i).block,off:=(a.add i).off+j}:=by
 unfold Addr.add;rw[if_neg (by omega)];split<;>simp_all<;>omega
section
variable {α:Type} {L:Lay α} {w w':World} {B B' base:Nat} {E:TypeId} {A:Option Addr} {v:Value} {l m:List α}
theorem RowAt.nil:RowAt L w B none []:=Reads.none_
theorem RowAt.get {k:Nat} (h:RowAt L w B A l) (hk:k<l.length):
 ∃ad,A=some ad/\ad.block<B/\(∀u,(L.enc l[k])[0]? =some u->w.cell? (ad.add (k*L.sz))=some u)/\
  ∀j u,0<j->(L.enc l[k])[j]? =some u->w.cell? {block:=(ad.add (k*L.sz)).block,off:=(ad.add (k*L.sz)).off+j}=some u:=by
 obtain⟨ad,e,hb,hc⟩:=h.2 (by omega);have hx:l[k]? =some l[k]:=List.getElem?_eq_getElem hk;refine⟨ad,e,hb,fun u hu=>hc _ _ ?_,fun j u hj hu=>?_⟩
 ·have:=L.all_at l k l[k] hx 0 u hu;simpa using this
 ·rw[<-add_pos_form' _ _ _ hj];exact hc _ _ (L.all_at l k l[k] hx j u hu)
theorem RowAt.below (h:RowAt L w B A l) (hb:Below B w w'):RowAt L w' B A l:=Reads.below h hb
theorem RowAt.more (h:RowAt L w B A l) (hB:B<=B'):RowAt L w B' A l:=Reads.more h hB
theorem RowAt.alloc (h:RowAt L w B A l) (hB:B<=w.heap.size) (o:Obj):RowAt L (w.alloc o) B A l:=Reads.alloc h hB o
theorem RowAt.drewN (h:RowAt L w B A l) (n:Nat):RowAt L (w.drewN n) B A l:=h
theorem OwnRow.nil:OwnRow L w base E (.slice none 0 0) []:=World.ownsRow_nil w base E L.sz
theorem OwnRow.form (h:OwnRow L w base E v l):∃A c,v=.slice A l.length c/\RowAt L w w.heap.size A l:=by
 have h':=h;rcases h.2 with⟨hv,hn⟩|⟨g,cap,cur,hv,_⟩
 ·have hl:l=[]:=List.eq_nil_of_length_eq_zero hn;subst hl;exact⟨none,0,hv,RowAt.nil⟩
 ·exact⟨_,cap,hv,Reads.of_own (c:=cap) (by rw[<-hv];exact h')⟩
theorem OwnRow.below (h:OwnRow L w base E v l) (hb:Below B w w') (hB:∀k,v.ownBlock=some k->k<B):OwnRow L w' base E v l:=by
 refine⟨h.1,?_⟩;rcases h.2 with hn|⟨g,cap,cur,rfl,hbg,hgg,rest⟩
 ·exact .inl hn
 ·exact .inr ⟨g,cap,cur,rfl,hbg,by rw[hb.block g (hB g (by simp[Value.ownBlock]))];exact hgg,rest⟩
theorem OwnRow.lt (h:OwnRow L w base E v l):∀k,v.ownBlock=some k->base<=k/\k<w.heap.size:=World.ownsRow.lt h
theorem OwnRow.later (h:OwnRow L w base E v l) (hb:Below w.heap.size w w'):OwnRow L w' base E v l:=h.below hb (fun k hk=>(h.lt k hk).2)
theorem OwnRow.alloc (h:OwnRow L w base E v l) (o:Obj):OwnRow L (w.alloc o) base E v l:=World.ownsRow.alloc h o
theorem OwnRow.drewN (h:OwnRow L w base E v l) (n:Nat):OwnRow L (w.drewN n) base E v l:=h
theorem grownBy_setCell' (w:World) (p:Addr) (u:Value):w.grownBy (w.setCell p u) (some p.block):=
 ⟨rfl,rfl,rfl,by simp[World.setCell],fun k _ hne=>Below.heap_setCell w p u k (fun e=>hne (by rw[e]))⟩
theorem OwnRow.setCell (h:OwnRow L w base E v l) {p:Addr} (hp:v.ownBlock≠some p.block) (u:Value):OwnRow L (w.setCell p u) base E v l:=
 World.ownsRow.kept h (grownBy_setCell' w p u) (.inr hp)
theorem OwnRow.grown_below (h:OwnRow L w base E v l) (hg:w.grownBy w' v.ownBlock) (hb:base<=w.heap.size):Below base w w':=
 (Below.refl base w).grown hg hb (fun k hk=>(h.lt k hk).1)
theorem OwnRow.ne_ (h:OwnRow L w base E v l) {g:Nat} (hg:w.heap.size<=g):some g≠v.ownBlock:=by
 intro e;have:=h.lt g e.symm;omega
theorem OwnRow.lower {base':Nat} (h:OwnRow L w base E v l) (hb:base'<=base):OwnRow L w base' E v l:=by
 refine⟨h.1,?_⟩;rcases h.2 with hn|⟨g,cap,cur,rfl,hbg,rest⟩
 ·exact .inl hn
 ·exact .inr ⟨g,cap,cur,rfl,by omega,rest⟩
theorem OwnRow.lit1 (hb:base<=w.heap.size) (x:α) (cs:Array Value) (hcs:cs.toList=L.enc x):
 OwnRow L (w.alloc (.cells cs E)) base E (.slice (some ⟨w.heap.size,0,none⟩) 1 1) [x]:=by
 have hsz:cs.size=L.sz:=by rw[<-Array.length_toList,hcs,L.len]
 refine⟨by simp[Lay.all,L.len],.inr ⟨w.heap.size,1,_,rfl,hb,heap_alloc_new w _,Nat.le_refl _,by simp[maxLen],by simp[hsz],?_⟩⟩;rw[hcs];simp[Lay.all,List.take_of_length_le,L.len]
theorem RowAt.lit1 (x:α) (cs:Array Value) (hcs:cs.toList=L.enc x) (n:Nat) (hn:n=w.heap.size):RowAt L (w.alloc (.cells cs E)) (w.heap.size+1) (some ⟨n,0,none⟩) [x]:=by
 subst hn;have h:=Reads.of_own (OwnRow.lit1 (L:=L) (E:=E) (Nat.le_refl w.heap.size) x cs hcs);rw[World.size_alloc]at h;exact h
end
structure SliceT (P:Program) {α:Type} (L:Lay α) (t e:TypeId) (bytes:Nat):Prop where
 und:P.underlying t=some (.slice e)
 info:∃i z,P.info? e=some i/\i.zero=some z/\i.size=L.sz/\i.bytes=bytes/\z.cells.size=L.sz
 small:bytes<=256
section
variable {P:Program} {α:Type} {L:Lay α} (w:World)
theorem wpList_append_row {ops:Array Oper} {rest:List Oper} {o:Oper} {a:Act} {Q:Exit->Act->World->Prop} (hgd:o.guard=none) (s x:Operand) (t e:TypeId) (bytes:Nat)
 (ho:o.op=.call {callee:=.builtin .append,args:=#[s,x],argTypes:=#[t,t]}) (hT:SliceT P L t e bytes)
 (base:Nat) (v:Value) (l:List α) (hs:a.eval s=v) (hown:OwnRow L w base e v l)
 (B:Nat) (A:Option Addr) (c:Nat) (m:List α) (hx:a.eval x=.slice A m.length c) (hr:RowAt L w B A m)
 (hlen:l.length+m.length<=1073741824) (hbase:base<=w.heap.size)
 (h:∀v' w',OwnRow L w' base e v' (l++m)->w.grownBy w' v.ownBlock->(v'.ownBlock=v.ownBlock\/v'.ownBlock=some w.heap.size)->wpList P ops Q rest (a.put o.dst v') w'):wpList P ops Q (o::rest) a w:=by
 obtain⟨i0,z,hi,hz0,hz1,hz2,hz3⟩:=hT.info;have hb:(l.length+m.length)*bytes<=1073741824*256:=Nat.mul_le_mul hlen hT.small;refine wpList_append_any w hgd s x t ho base e i0 z L.sz bytes hT.und hi hz0 hz1 hz2 hz3 L.pos v l.length (L.all l) hs hown B A m.length c (L.all m) hx hr (L.all_one m) (by simp only[maxLen];omega) (by omega) hbase ?_;intro v' w' h1 h2 h3;refine h v' w' ?_ h2 h3;unfold OwnRow;rw[List.length_append,L.all_append];exact h1
theorem step_append_row {ops:Array Oper} {o:Oper} {a:Act} {K:Act->World->Prop} {Q:Exit->Act->World->Prop} {E:Prop} (hgd:o.guard=none) (s x:Operand) (t e:TypeId) (bytes:Nat)
 (ho:o.op=.call {callee:=.builtin .append,args:=#[s,x],argTypes:=#[t,t]}) (hT:SliceT P L t e bytes)
 (base:Nat) (v:Value) (l:List α) (hs:a.eval s=v) (hown:OwnRow L w base e v l)
 (B:Nat) (A:Option Addr) (c:Nat) (m:List α) (hx:a.eval x=.slice A m.length c) (hr:RowAt L w B A m)
 (hlen:l.length+m.length<=1073741824) (hbase:base<=w.heap.size)
 (h:∀v' w',OwnRow L w' base e v' (l++m)->w.grownBy w' v.ownBlock->(v'.ownBlock=v.ownBlock\/v'.ownBlock=some w.heap.size)->K (a.put o.dst v') w'):
 if Region.wanted o (yielded ops a.tmps)=true then Oper.wp P o a w K Q else E:=by
 obtain⟨i0,z,hi,hz0,hz1,hz2,hz3⟩:=hT.info;have hb:(l.length+m.length)*bytes<=1073741824*256:=Nat.mul_le_mul hlen hT.small;refine step_append_any w hgd s x t ho base e i0 z L.sz bytes hT.und hi hz0 hz1 hz2 hz3 L.pos v l.length (L.all l) hs hown B A m.length c (L.all m) hx hr (L.all_one m) (by simp only[maxLen];omega) (by omega) hbase ?_;intro v' w' h1 h2 h3;refine h v' w' ?_ h2 h3;unfold OwnRow;rw[List.length_append,L.all_append];exact h1
end
structure KeptBut' (w w':World) (S:Nat->Prop):Prop where
 os:w'.os=w.os
 tape:w'.tape=w.tape
 output:w'.output=w.output
 size:w.heap.size<=w'.heap.size
 block:∀k,k<w.heap.size->¬S k->w'.heap[k]? =w.heap[k]?
theorem KeptBut'.below {w w':World} {S:Nat->Prop} {B:Nat} (h:KeptBut' w w' S) (hB:B<=w.heap.size) (hS:∀k,S k->B<=k):Below B w w':=
 ⟨h.os,h.tape,h.output,h.size,fun k hk=>h.block k (by omega) (fun hs=>by have:=hS k hs;omega)⟩
theorem KeptBut'.cell {w w':World} {S:Nat->Prop} (h:KeptBut' w w' S) {g i:Nat} {v:Value} (hc:w.cell? ⟨g,i,none⟩=some v) (hS:¬S g):w'.cell? ⟨g,i,none⟩=some v:=
 (World.cell?_of_block (w:=w) (h.block g (World.block_lt_of_cell? w ⟨g,i,none⟩ hc) hS)).trans hc
theorem extract_list' (s:List UInt8) (i j:Nat):(⟨s.toArray⟩:ByteArray).extract i j=⟨((s.drop i).take (j-i)).toArray⟩:=by
 apply ByteArray.ext;apply Array.ext';simp[ByteArray.extract,ByteArray.copySlice,List.extract]
section
variable {α:Type} {L:Lay α} {w:World} {B base:Nat} {E:TypeId} {A:Option Addr} {v:Value} {l:List α}
theorem Lay.all_drop (l:List α) (k:Nat):L.all (l.drop k)=(L.all l).drop (k*L.sz):=by
 induction l generalizing k with
 |nil=>simp[Lay.all]
 |cons x l ih=>
  cases k with
  |zero=>simp
  |succ k=>
   have e:L.all (x::l)=L.enc x++L.all l:=rfl;have h1:(L.enc x).drop ((k+1)*L.sz)=[]:=List.drop_eq_nil_of_le (by rw[L.len,Nat.add_mul];omega);rw[List.drop_succ_cons,ih,e,List.drop_append,h1,L.len,List.nil_append,show(k+1)*L.sz-L.sz=k*L.sz from by rw[Nat.add_mul];omega]
theorem Lay.all_take (l:List α) (k:Nat):L.all (l.take k)=(L.all l).take (k*L.sz):=by
 induction l generalizing k with
 |nil=>simp[Lay.all]
 |cons x l ih=>
  cases k with
  |zero=>simp[Lay.all]
  |succ k=>
   have e:L.all (x::l)=L.enc x++L.all l:=rfl;have e2:L.all (x::l.take k)=L.enc x++L.all (l.take k):=rfl;have h1:(L.enc x).take ((k+1)*L.sz)=L.enc x:=List.take_of_length_le (by rw[L.len,Nat.add_mul];omega);rw[List.take_succ_cons,e2,ih,e,List.take_append,h1,L.len,show(k+1)*L.sz-L.sz=k*L.sz from by rw[Nat.add_mul];omega]
theorem RowAt.take (h:RowAt L w B A l) (k:Nat) (hk:k<=l.length):RowAt L w B A (l.take k):=by
 refine⟨L.all_len _,fun hn=>?_⟩;rw[List.length_take]at hn;obtain⟨ad,e,hb,hc⟩:=h.2 (by omega);refine⟨ad,e,hb,fun j u hj=>hc j u ?_⟩;rw[Lay.all_take,List.getElem?_take]at hj;split at hj
 ·exact hj
 ·cases hj
theorem RowAt.drop (h:RowAt L w B A l) {k cap:Nat} (hk:k<=l.length) (hc:l.length<=cap):RowAt L w B (if cap=k then A else A.map (·.add (k*L.sz))) (l.drop k):=by
 have:=Reads.cut h hk hc;unfold RowAt;rw[List.length_drop,Lay.all_drop];exact this
theorem RowAt.sub (h:RowAt L w B A l) {k m cap:Nat} (hkm:k<=m) (hm:m<=l.length) (hc:l.length<=cap):RowAt L w B (if cap=k then A else A.map (·.add (k*L.sz))) ((l.drop k).take (m-k)):=
 (h.drop (by omega) hc).take (m-k) (by rw[List.length_drop];omega)
end
section
variable {P:Program}
theorem run_slice_l (t e:TypeId) (i:TypeInfo) (ht:P.underlying t=some (.slice e)) (hi:P.info? e=some i) (a:Option Addr) (n c k:Nat) (hk:k<=n) (w:World):
 (Instr.slice t (.slice a n c) (some (.int .i64 (k:Int))) none none).run P w=.ok (.slice (if c=k then a else a.map (·.add (k*i.size))) (n-k) (c-k)) w:=by
 have e1:∀code,(Instr.sliceBound (.int .i64 (k:Int)) n code).run P w=.ok k w:=fun code=>by
  rw[run_sliceBound (P:=P) (w:=w) .i64 k n code (by omega) (by omega)];simp
 simp[Instr.slice,run_underlying ht,Instr.sliceBounds,sizeOf,typeInfo,hi,e1]
theorem run_slice_h (t e:TypeId) (i:TypeInfo) (ht:P.underlying t=some (.slice e)) (hi:P.info? e=some i) (a:Option Addr) (n c m:Nat) (hm:m<=c) (w:World):
 (Instr.slice t (.slice a n c) none (some (.int .i64 (m:Int))) none).run P w=.ok (.slice (if c=0 then a else a.map (·.add (0*i.size))) m c) w:=by
 have e1:∀code,(Instr.sliceBound (.int .i64 (m:Int)) c code).run P w=.ok m w:=fun code=>by
  rw[run_sliceBound (P:=P) (w:=w) .i64 m c code (by omega) (by omega)];simp
 simp[Instr.slice,run_underlying ht,Instr.sliceBounds,sizeOf,typeInfo,hi,e1]
theorem run_slice_lI (t e:TypeId) (i:TypeInfo) (ht:P.underlying t=some (.slice e)) (hi:P.info? e=some i) (a:Option Addr) (n c:Nat) (k:Int) (h0:0<=k) (hk:k<=n) (w:World):
 (Instr.slice t (.slice a n c) (some (.int .i64 k)) none none).run P w=.ok (.slice (if c=k.toNat then a else a.map (·.add (k.toNat*i.size))) (n-k.toNat) (c-k.toNat)) w:=by
 have:=run_slice_l (P:=P) t e i ht hi a n c k.toNat (by omega) w;rwa[show((k.toNat:Nat):Int)=k from by omega]at this
end
theorem cells2 {w:World} {g:Nat} {t:TypeId} {v0 v1:Value} {l:List Value} (h:Blk w g t (List.toArray (v0::v1::l))):w.cell? ⟨g,0,none⟩=some v0/\w.cell? ⟨g,1,none⟩=some v1:=⟨h.cell 0,h.cell 1⟩
theorem cells3 {w:World} {g:Nat} {t:TypeId} {v0 v1 v2:Value} {l:List Value} (h:Blk w g t (List.toArray (v0::v1::v2::l))):w.cell? ⟨g,0,none⟩=some v0/\w.cell? ⟨g,1,none⟩=some v1/\w.cell? ⟨g,2,none⟩=some v2:=⟨h.cell 0,h.cell 1,h.cell 2⟩
theorem cells4 {w:World} {g:Nat} {t:TypeId} {v0 v1 v2 v3:Value} {l:List Value} (h:Blk w g t (List.toArray (v0::v1::v2::v3::l))):w.cell? ⟨g,0,none⟩=some v0/\w.cell? ⟨g,1,none⟩=some v1/\w.cell? ⟨g,2,none⟩=some v2/\w.cell? ⟨g,3,none⟩=some v3:=⟨h.cell 0,h.cell 1,h.cell 2,h.cell 3⟩
theorem cells5 {w:World} {g:Nat} {t:TypeId} {v0 v1 v2 v3 v4:Value} {l:List Value} (h:Blk w g t (List.toArray (v0::v1::v2::v3::v4::l))):w.cell? ⟨g,0,none⟩=some v0/\w.cell? ⟨g,1,none⟩=some v1/\w.cell? ⟨g,2,none⟩=some v2/\w.cell? ⟨g,3,none⟩=some v3/\w.cell? ⟨g,4,none⟩=some v4:=⟨h.cell 0,h.cell 1,h.cell 2,h.cell 3,h.cell 4⟩
theorem cells11 {w:World} {g:Nat} {t:TypeId} {v0 v1 v2 v3 v4 v5 v6 v7 v8 v9 v10:Value} {l:List Value} (h:Blk w g t (List.toArray (v0::v1::v2::v3::v4::v5::v6::v7::v8::v9::v10::l))):w.cell? ⟨g,0,none⟩=some v0/\w.cell? ⟨g,1,none⟩=some v1/\w.cell? ⟨g,2,none⟩=some v2/\w.cell? ⟨g,3,none⟩=some v3/\w.cell? ⟨g,4,none⟩=some v4/\w.cell? ⟨g,5,none⟩=some v5/\w.cell? ⟨g,6,none⟩=some v6/\w.cell? ⟨g,7,none⟩=some v7/\w.cell? ⟨g,8,none⟩=some v8/\w.cell? ⟨g,9,none⟩=some v9/\w.cell? ⟨g,10,none⟩=some v10:=⟨h.cell 0,h.cell 1,h.cell 2,h.cell 3,h.cell 4,h.cell 5,h.cell 6,h.cell 7,h.cell 8,h.cell 9,h.cell 10⟩
theorem cells12 {w:World} {g:Nat} {t:TypeId} {v0 v1 v2 v3 v4 v5 v6 v7 v8 v9 v10 v11:Value} {l:List Value} (h:Blk w g t (List.toArray (v0::v1::v2::v3::v4::v5::v6::v7::v8::v9::v10::v11::l))):w.cell? ⟨g,0,none⟩=some v0/\w.cell? ⟨g,1,none⟩=some v1/\w.cell? ⟨g,2,none⟩=some v2/\w.cell? ⟨g,3,none⟩=some v3/\w.cell? ⟨g,4,none⟩=some v4/\w.cell? ⟨g,5,none⟩=some v5/\w.cell? ⟨g,6,none⟩=some v6/\w.cell? ⟨g,7,none⟩=some v7/\w.cell? ⟨g,8,none⟩=some v8/\w.cell? ⟨g,9,none⟩=some v9/\w.cell? ⟨g,10,none⟩=some v10/\w.cell? ⟨g,11,none⟩=some v11:=⟨h.cell 0,h.cell 1,h.cell 2,h.cell 3,h.cell 4,h.cell 5,h.cell 6,h.cell 7,h.cell 8,h.cell 9,h.cell 10,h.cell 11⟩
def T12 (a b c:Bool) (d e f g h i j k:Int) (l:Bool):Array Value:=#[.bool a,.bool b,.bool c,.int .i64 d,.int .i64 e,.int .i64 f,.int .i64 g,.int .i64 h,.int .i64 i,.int .i64 j,.int .i64 k,.bool l]
end Go.Proofs.YtoigpackhninoaaGreatDoor

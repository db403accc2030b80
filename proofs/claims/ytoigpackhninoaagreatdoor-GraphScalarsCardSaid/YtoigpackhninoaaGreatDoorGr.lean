namespace Go.Proofs.YtoigpackhninoaaGreatDoor
namespace Gr
inductive Reach (sc:Nat->List Nat):Nat->Nat->Prop
 |refl (a:Nat):Reach sc a a
 |step {a b c:Nat}:b∈sc a->Reach sc b c->Reach sc a c
theorem Reach.one {sc:Nat->List Nat} {a b:Nat} (h:b∈sc a):Reach sc a b:=.step h (.refl b)
theorem Reach.trans {sc:Nat->List Nat} {a b c:Nat} (h:Reach sc a b) (h2:Reach sc b c):Reach sc a c:=by
 induction h with
 |refl=>exact h2
 |step h1 _ ih=>exact .step h1 (ih h2)
theorem Reach.closed {sc:Nat->List Nat} {p:Nat->Prop} (hp:∀a,p a->∀b∈sc a,p b) {a b:Nat} (h:Reach sc a b) (ha:p a):p b:=by
 induction h with
 |refl=>exact ha
 |step h1 _ ih=>exact ih (hp _ ha _ h1)
theorem za6 {α:Type} (l:List α) (v:Nat) (a d:α) (h:v<l.length):(l.set v a).getD v d=a:=by
 grind
theorem getD_set_ne {α:Type} (l:List α) (u v:Nat) (a d:α) (h:u≠v):(l.set u a).getD v d=l.getD v d:=by
 grind
structure TS where
 idx:List Nat
 low:List Nat
 inn:List Int
 sizes:List Nat
 stk:List Nat
 on:List Bool
 next:Nat
def TS.ix (s:TS) (v:Nat):Nat:=s.idx.getD v 0
def TS.lw (s:TS) (v:Nat):Nat:=s.low.getD v 0
def TS.cn (s:TS) (v:Nat):Int:=s.inn.getD v (-1)
def TS.onn (s:TS) (v:Nat):Bool:=s.on.getD v false
def TS.push (s:TS) (v:Nat):TS:=
 {s with next:=s.next+1,idx:=s.idx.set v (s.next+1),low:=s.low.set v (s.next+1),stk:=s.stk++[v],on:=s.on.set v true}
def TS.lower (s:TS) (v m:Nat):TS:={s with low:=s.low.set v (min (s.lw v) m)}
def TS.drop1 (s:TS) (x:Nat):TS:={s with stk:=s.stk.dropLast,on:=s.on.set x false,inn:=s.inn.set x s.sizes.length}
def TS.popL (v:Nat):List Nat->Nat->TS->TS×Nat
 | [],k,s=>(s,k)
 |x::r,k,s=>if x=v then(s.drop1 x,k+1)else TS.popL v r (k+1) (s.drop1 x)
def TS.close (s:TS) (v:Nat):TS:={(TS.popL v s.stk.reverse 0 s).1 with sizes:=s.sizes++[(TS.popL v s.stk.reverse 0 s).2]}
def tstep (vis:TS->Nat->TS) (v:Nat) (s:TS) (x:Nat):TS:=
 if s.ix x=0 then(vis s x).lower v ((vis s x).lw x)else if s.onn x then s.lower v (s.ix x)else s
def tfin (s:TS) (v:Nat):TS:=if s.lw v=s.ix v then s.close v else s
def tvisit (sc:Nat->List Nat):Nat->TS->Nat->TS
 | 0,s,_=>s
 |f+1,s,v=>tfin ((sc v).foldl (tstep (tvisit sc f) v) (s.push v)) v
def unv (n:Nat) (s:TS):Nat:=(List.range n).countP (fun i=>s.ix i==0)
theorem zdx {α:Type} (p q:α->Bool) (l:List α) (h:∀x∈l,p x=true->q x=true):l.countP p<=l.countP q:=by
 induction l with
 |nil=>simp
 |cons a l ih=>
  grind
theorem zcr {α:Type} (p q:α->Bool) (l:List α) (h:∀x∈l,p x=true->q x=true) (a:α) (ha:a∈l) (hp:p a=false) (hq:q a=true):l.countP p<l.countP q:=by
 induction l with
 |nil=>cases ha
 |cons b l ih=>
  simp only[List.countP_cons];rcases List.mem_cons.1 ha with rfl|hm
  ·have:=zdx p q l (fun x hx=>h x (.tail _ hx));simp[hp,hq];omega
  ·grind
theorem zjh (l:List Nat) (a:Nat) (p:Nat->Bool) (hn:l.Nodup) (ha:a∈l) (hp:p a=false):l.countP (fun i=>i==a || p i)=l.countP p+1:=by
 induction l with
 |nil=>cases ha
 |cons b l ih=>
  simp only[List.countP_cons];have hn':=List.nodup_cons.1 hn;rcases List.mem_cons.1 ha with rfl|hm
  ·have:l.countP (fun i=>i==a || p i)=l.countP p:=by
    apply List.countP_congr;intro x hx;have:x≠a:=fun e=>hn'.1 (e▸hx)
    simp[this]
   rw[this];simp[hp]
  ·grind
theorem zji (n:Nat) (C:List Nat) (hn:C.Nodup) (hC:∀x∈C,x<n):(List.range n).countP (fun i=>decide (i∈C))=C.length:=by
 induction C with
 |nil=>simp
 |cons a C ih=>
  have h:=List.nodup_cons.1 hn;have e:(List.range n).countP (fun i=>decide (i∈a::C))=(List.range n).countP (fun i=>i==a || decide (i∈C)):=by
   grind
  rw[e,zjh _ _ _ List.nodup_range (List.mem_range.2 (hC a (.head _))) (by simp[h.1]),ih h.2 (fun x hx=>hC x (.tail _ hx))];rfl
structure Inv (sc:Nat->List Nat) (n:Nat) (G:Nat->Prop) (s:TS):Prop where
 li:s.idx.length=n
 ll:s.low.length=n
 lc:s.inn.length=n
 lo:s.on.length=n
 nx:∀v,s.ix v<=s.next
 inj:∀u v,s.ix u≠0->s.ix u=s.ix v->u=v
 mem:∀v,s.onn v=true↔v∈s.stk
 stv:∀v∈s.stk,v<n/\s.ix v≠0
 ord:s.stk.Pairwise (fun a b=>s.ix a<s.ix b)
 don:∀v,s.cn v≠-1↔s.ix v≠0/\v∉s.stk
 rng:∀v,s.cn v≠-1->0<=s.cn v/\s.cn v<s.sizes.length
 suc:∀v,s.cn v≠-1->∀x∈sc v,s.cn x≠-1/\s.cn x<=s.cn v
 cmp:∀u v,s.cn u≠-1->s.cn v≠-1->(s.cn u=s.cn v↔Reach sc u v/\Reach sc v u)
 cnt:∀c:Nat,c<s.sizes.length->s.sizes.getD c 0=(List.range n).countP (fun i=>s.cn i==(c:Int))
 gst:∀g,G g->g∈s.stk
 gfw:∀g y,G g->y∈s.stk->s.ix g<=s.ix y->Reach sc g y
 gbk:∀y∈s.stk,∃g,G g/\s.ix g<=s.ix y/\Reach sc y g
 blk:∀v,s.ix v≠0->¬G v->∀x∈sc v,s.ix x≠0
 bn:s.next+unv n s<=n
 bz:s.sizes.length+s.stk.length+unv n s<=n
structure Post (sc:Nat->List Nat) (s s':TS) (v:Nat) (T:List Nat):Prop where
 stk:s'.stk=s.stk++T
 kix:∀u,s.ix u≠0->s'.ix u=s.ix u
 klw:∀u,s.ix u≠0->s'.lw u=s.lw u
 kcn:∀u,s.cn u≠-1->s'.cn u=s.cn u
 nxt:s.next<=s'.next
 vis:s'.ix v≠0
 new:∀u,s.ix u=0->s'.ix u≠0->s.next<s'.ix u
 rch:∀u,s.ix u=0->s'.ix u≠0->Reach sc v u
 out:v∉T->T=[]/\s'.lw v=s'.ix v
 att:v∈T->∃z∈s.stk,s.ix z=s'.lw v/\Reach sc v z
 edg:v∈T->∀y∈T,∀z∈sc y,z∈s.stk->s'.lw v<=s.ix z
section
variable {sc:Nat->List Nat} {n:Nat} {G:Nat->Prop} {s s':TS} {v:Nat}
theorem zhg (h:v<s.idx.length) (u:Nat):(s.push v).ix u=if u=v then s.next+1 else s.ix u:=by
 unfold TS.ix TS.push;simp only;split
 ·grind
 ·grind
theorem zqw (h:v<s.low.length) (u:Nat):(s.push v).lw u=if u=v then s.next+1 else s.lw u:=by
 unfold TS.lw TS.push;simp only;split
 ·grind
 ·grind
theorem zn6 (h:v<s.on.length) (u:Nat):(s.push v).onn u=if u=v then true else s.onn u:=by
 unfold TS.onn TS.push;simp only;split
 ·grind
 ·grind
theorem zie (h:v<s.low.length) (m u:Nat):(s.lower v m).lw u=if u=v then min (s.lw v) m else s.lw u:=by
 unfold TS.lower;show(s.low.set v _).getD u 0=_;split
 ·grind
 ·exact getD_set_ne _ _ _ _ _ (Ne.symm ‹_›)
theorem Inv.lower (h:Inv sc n G s) (m:Nat):Inv sc n G (s.lower v m):=
 ⟨h.li,by unfold TS.lower;simp[h.ll],h.lc,h.lo,h.nx,h.inj,h.mem,h.stv,h.ord,h.don,h.rng,h.suc,h.cmp,h.cnt,h.gst,h.gfw,h.gbk,h.blk,h.bn,h.bz⟩
theorem Inv.push (h:Inv sc n G s) (hv:v<n) (h0:s.ix v=0) (hg:∀g,G g->Reach sc g v):Inv sc n (fun u=>G u\/u=v) (s.push v):=by
 have hix:=zhg (s:=s) (v:=v) (by rw[h.li];exact hv);have hon:=zn6 (s:=s) (v:=v) (by rw[h.lo];exact hv);have hvs:v∉s.stk:=fun hm=>(h.stv v hm).2 h0
 have hcn:∀u,(s.push v).cn u=s.cn u:=fun u=>rfl
 have hst:(s.push v).stk=s.stk++[v]:=rfl;have hsz:(s.push v).sizes=s.sizes:=rfl;have hne:∀u∈s.stk,u≠v:=fun u hu e=>hvs (e▸hu)
 have hup:unv n (s.push v)<unv n s:=by
  refine zcr _ _ _ (fun u _ hu=>?_) v (List.mem_range.2 hv) ?_ (by simpa using h0)
  ·grind
  ·rw[hix,if_pos rfl];simp
 refine⟨by simp[TS.push,h.li],by simp[TS.push,h.ll],h.lc,by simp[TS.push,h.lo],?_,?_,?_,?_,?_,?_,h.rng,h.suc,h.cmp,h.cnt,?_,?_,?_,?_,?_,?_⟩
 ·intro u;rw[hix];have:=h.nx u;show _<=s.next+1;split<;>omega
 ·intro u w;rw[hix,hix];have:=h.nx u;have:=h.nx w;have:=h.inj u w;split<;>split<;>intros<;>first|omega| (subst_vars;rfl)| (apply h.inj<;>assumption)
 ·intro u;rw[hon,hst,List.mem_append,List.mem_singleton];split
  ·simp[*]
  ·rw[h.mem];simp[*]
 ·intro u hu;rw[hst,List.mem_append,List.mem_singleton]at hu;rw[hix];rcases hu with hu|rfl
  ·rw[if_neg (hne u hu)];exact h.stv u hu
  ·simp[hv]
 ·rw[hst,List.pairwise_append];refine⟨?_,by simp,?_⟩
  ·exact h.ord.imp_of_mem (fun ha hb hab=>by rw[hix,hix,if_neg (hne _ ha),if_neg (hne _ hb)];exact hab)
  ·intro a ha b hb;rw[List.mem_singleton]at hb;subst hb;rw[hix,hix,if_neg (hne a ha),if_pos rfl];have:=h.nx a;omega
 ·intro u;rw[hcn,hix,hst,List.mem_append,List.mem_singleton,h.don];split
  ·subst u;simp[h0]
  ·simp[*]
 ·intro g hG;rw[hst,List.mem_append,List.mem_singleton];rcases hG with hG|rfl
  ·exact .inl (h.gst g hG)
  ·exact .inr rfl
 ·intro g y hG hy;rw[hst,List.mem_append,List.mem_singleton]at hy;rw[hix,hix];rcases hG with hG|rfl
  ·have hgv:=hne g (h.gst g hG);rw[if_neg hgv];rcases hy with hy|rfl
   ·rw[if_neg (hne y hy)];exact h.gfw g y hG hy
   ·intro _;exact hg g hG
  ·rw[if_pos rfl];rcases hy with hy|rfl
   ·rw[if_neg (hne y hy)];have:=h.nx y;intro;omega
   ·intro _;exact .refl _
 ·intro y hy;rw[hst,List.mem_append,List.mem_singleton]at hy;rcases hy with hy|rfl
  ·obtain⟨g,h1,h2,h3⟩:=h.gbk y hy;refine⟨g,.inl h1,?_,h3⟩;rw[hix,hix,if_neg (hne y hy),if_neg (hne g (h.gst g h1))];exact h2
  ·exact⟨y,.inr rfl,Nat.le_refl _,.refl _⟩
 ·intro u hu hG x hx;rw[hix]at hu ⊢;have huv:u≠v:=fun e=>hG (.inr e)
  rw[if_neg huv]at hu;have:=h.blk u hu (fun e=>hG (.inl e)) x hx;split<;>omega
 ·have:=h.bn;show s.next+1+_<=n;omega
 ·have:=h.bz;rw[hst,hsz,List.length_append];simp only[List.length_cons,List.length_nil];omega
end
section
variable {sc:Nat->List Nat} {n:Nat} {G:Nat->Prop} {s s':TS} {v:Nat}
theorem zif (x:Nat) (h:x<s.inn.length) (u:Nat):(s.drop1 x).cn u=if u=x then(s.sizes.length:Int)else s.cn u:=by
 unfold TS.cn TS.drop1;simp only;split
 ·grind
 ·grind
theorem zf6 (x:Nat) (h:x<s.on.length) (u:Nat):(s.drop1 x).onn u=if u=x then false else s.onn u:=by
 unfold TS.onn TS.drop1;simp only;split
 ·grind
 ·grind
structure Popped (s s':TS) (A C:List Nat):Prop where
 idx:s'.idx=s.idx
 low:s'.low=s.low
 next:s'.next=s.next
 sizes:s'.sizes=s.sizes
 stk:s'.stk=A
 lc:s'.inn.length=s.inn.length
 lo:s'.on.length=s.on.length
 cn:∀u,s'.cn u=if u∈C then(s.sizes.length:Int)else s.cn u
 onn:∀u,s'.onn u=if u∈C then false else s.onn u
theorem zk3 (v:Nat) (A:List Nat):∀(R rest:List Nat) (k:Nat) (s:TS),v∉R->s.stk=A++v::R.reverse->(∀x∈v::R,x<s.inn.length/\x<s.on.length)->
 Popped s (TS.popL v (R++v::rest) k s).1 A (v::R)/\(TS.popL v (R++v::rest) k s).2=k+R.length+1:=by
 intro R
 induction R with
 |nil=>
  intro rest k s _ hs hb;have hb:=hb v (.head _);simp only[List.nil_append,TS.popL,if_true,List.length_nil,Nat.add_zero,and_true];refine⟨rfl,rfl,rfl,rfl,?_,by simp[TS.drop1],by simp[TS.drop1],?_,?_⟩
  ·show s.stk.dropLast=A;rw[hs];simp
  ·intro u;rw[zif _ hb.1];simp
  ·intro u;rw[zf6 _ hb.2];simp
 |cons x R ih=>
  intro rest k s hv hs hb;have hxv:x≠v:=fun e=>hv (e▸.head _)
  have hbx:=hb x (.tail _ (.head _));simp only[List.cons_append,TS.popL,if_neg hxv];have hst:(s.drop1 x).stk=A++v::R.reverse:=by
   show s.stk.dropLast=_;rw[hs];simp only[List.reverse_cons,<-List.cons_append,<-List.append_assoc,List.dropLast_concat]
  obtain⟨h1,h2⟩:=ih rest (k+1) (s.drop1 x) (fun e=>hv (.tail _ e)) hst (fun y hy=>by
   have:y∈v::x::R:=by
    grind
   have:=hb y this;simpa[TS.drop1]using this)
  refine⟨⟨h1.idx,h1.low,h1.next,h1.sizes,h1.stk,by rw[h1.lc];simp[TS.drop1],by rw[h1.lo];simp[TS.drop1],?_,?_⟩,by rw[h2];simp;omega⟩
  ·intro u;rw[h1.cn,zif _ hbx.1];show(if u∈v::R then(s.sizes.length:Int)else _)=_;by_cases e:u=x<;>by_cases e2:u∈v::R<;>simp_all
  ·intro u;rw[h1.onn,zf6 _ hbx.2];by_cases e:u=x<;>by_cases e2:u∈v::R<;>simp_all
theorem zqx (v:Nat):∀(R rest:List Nat) (k:Nat) (s:TS),v∉R->TS.popL v (R++v::rest) k s=((R.foldl TS.drop1 s).drop1 v,k+R.length+1):=by
 intro R
 induction R with
 |nil=>intro rest k s _;simp[TS.popL]
 |cons x R ih=>
  intro rest k s hv;have hxv:x≠v:=fun e=>hv (e▸.head _)
  simp only[List.cons_append,TS.popL,if_neg hxv,List.foldl_cons,List.length_cons];rw[ih rest (k+1) _ (fun e=>hv (.tail _ e))]
  congr 1
  omega
theorem zn7 {s:TS} {A T:List Nat} {v:Nat} (hs:s.stk=A++v::T) (hv:v∉T):s.close v={(T.reverse.foldl TS.drop1 s).drop1 v with sizes:=s.sizes++[T.length+1]}:=by
 have hrev:s.stk.reverse=T.reverse++v::A.reverse:=by rw[hs];simp
 unfold TS.close;rw[hrev,zqx v T.reverse A.reverse 0 s (by simpa using hv)];simp
theorem zn8 {s:TS} {A T:List Nat} {v:Nat} (hs:s.stk=A++v::T):∀k,k<=T.length->((T.reverse.take k).foldl TS.drop1 s).stk=A++v::T.take (T.length-k)/\((T.reverse.take k).foldl TS.drop1 s).sizes=s.sizes/\
 ((T.reverse.take k).foldl TS.drop1 s).on.length=s.on.length/\((T.reverse.take k).foldl TS.drop1 s).inn.length=s.inn.length:=by
 intro k
 induction k with
 |zero=>intro _;simp[hs]
 |succ k ih=>
  intro hk;obtain⟨h1,h2,h3,h4⟩:=ih (by omega);have hkl:k<T.reverse.length:=by simp;omega
  rw[List.take_succ_eq_append_getElem hkl,List.foldl_append];simp only[List.foldl_cons,List.foldl_nil];refine⟨?_,h2,?_,?_⟩
  ·show List.dropLast _=_;rw[h1];have e:T.take (T.length-k)=T.take (T.length-(k+1))++[T[T.length-(k+1)]'(by omega)]:=by
    have:=List.take_succ_eq_append_getElem (l:=T) (i:=T.length-(k+1)) (by omega);rw[show T.length-(k+1)+1=T.length-k from by omega]at this;exact this
   rw[e,<-List.cons_append,<-List.append_assoc,List.dropLast_concat]
  ·show(List.set _ _ _).length=_;rw[List.length_set];exact h3
  ·show(List.set _ _ _).length=_;rw[List.length_set];exact h4
theorem zdf {l:List Nat} {f:Nat->Nat} (h:l.Pairwise (fun a b=>f a<f b)):l.Nodup:=
 h.imp (fun hab e=>by rw[e]at hab;omega)
structure Loop (sc:Nat->List Nat) (n:Nat) (G:Nat->Prop) (s0 s:TS) (v:Nat) (T P:List Nat):Prop where
 inv:Inv sc n (fun u=>G u\/u=v) s
 stk:s.stk=s0.stk++v::T
 kix:∀u,s0.ix u≠0->s.ix u=s0.ix u
 klw:∀u,s0.ix u≠0->s.lw u=s0.lw u
 kcn:∀u,s0.cn u≠-1->s.cn u=s0.cn u
 nxt:s0.next<s.next
 ixv:s.ix v=s0.next+1
 new:∀u,s0.ix u=0->s.ix u≠0->s0.next<s.ix u
 rch:∀u,s0.ix u=0->s.ix u≠0->Reach sc v u
 prc:∀x∈P,s.ix x≠0
 lwv:s.lw v<=s.ix v
 att:s.lw v=s.ix v\/∃z∈s0.stk,s0.ix z=s.lw v/\Reach sc v z
 ed1:∀y∈T,∀z∈sc y,z∈s0.stk->s.lw v<=s0.ix z
 ed2:∀x∈P,x∈s0.stk->s.lw v<=s0.ix x
theorem Loop.close {s0:TS} {T:List Nat} (h0:Inv sc n G s0) (hv:v<n) (hv0:s0.ix v=0) (h:Loop sc n G s0 s v T (sc v)) (hl:s.lw v=s.ix v):
 Inv sc n G (s.close v)/\Post sc s0 (s.close v) v []:=by
 have hI:=h.inv;have hnd:s.stk.Nodup:=zdf hI.ord;rw[h.stk,List.nodup_append]at hnd;obtain⟨_,hnd2,hdis⟩:=hnd;have hvT:v∉T:=(List.nodup_cons.1 hnd2).1;have hmem:∀u,u∈s.stk↔u∈s0.stk\/u∈v::T:=fun u=>by rw[h.stk,List.mem_append]
 have hCn:∀x∈v::T,x<n/\s.ix x≠0:=fun x hx=>hI.stv x ((hmem x).2 (.inr hx))
 have hrev:s.stk.reverse=T.reverse++v::s0.stk.reverse:=by rw[h.stk];simp
 obtain⟨hp,hk⟩:=zk3 v s0.stk T.reverse s0.stk.reverse 0 s (by simpa using hvT) (by rw[h.stk];simp) (fun x hx=>by
  have:x∈v::T:=by simpa using hx
  have:=(hCn x this).1;exact⟨by rw[hI.lc];exact this,by rw[hI.lo];exact this⟩)
 rw[<-hrev]at hp hk;obtain⟨c,hc⟩:∃c,s.close v=c:=⟨_,rfl⟩
 have hmc:∀u,u∈v::T.reverse↔u∈v::T:=fun u=>by simp
 have cix:∀u,c.ix u=s.ix u:=fun u=>by rw[<-hc];show(TS.popL v s.stk.reverse 0 s).1.idx.getD u 0=_;rw[hp.idx];rfl
 have clw:∀u,c.lw u=s.lw u:=fun u=>by rw[<-hc];show(TS.popL v s.stk.reverse 0 s).1.low.getD u 0=_;rw[hp.low];rfl
 have ccn:∀u,c.cn u=if u∈v::T then(s.sizes.length:Int)else s.cn u:=fun u=>by
  rw[<-hc];show(TS.popL v s.stk.reverse 0 s).1.cn u=_;rw[hp.cn];simp only[hmc]
 have con:∀u,c.onn u=if u∈v::T then false else s.onn u:=fun u=>by
  rw[<-hc];show(TS.popL v s.stk.reverse 0 s).1.onn u=_;rw[hp.onn];simp only[hmc]
 have cst:c.stk=s0.stk:=by rw[<-hc];exact hp.stk
 have csz:c.sizes=s.sizes++[(v::T).length]:=by rw[<-hc];show s.sizes++[_]=_;rw[hk];simp
 have cnx:c.next=s.next:=by rw[<-hc];exact hp.next
 have cli:c.idx.length=n:=by rw[<-hc];show(TS.popL v s.stk.reverse 0 s).1.idx.length=n;rw[hp.idx];exact hI.li
 have cll:c.low.length=n:=by rw[<-hc];show(TS.popL v s.stk.reverse 0 s).1.low.length=n;rw[hp.low];exact hI.ll
 have clc:c.inn.length=n:=by rw[<-hc];show(TS.popL v s.stk.reverse 0 s).1.inn.length=n;rw[hp.lc];exact hI.lc
 have clo:c.on.length=n:=by rw[<-hc];show(TS.popL v s.stk.reverse 0 s).1.on.length=n;rw[hp.lo];exact hI.lo
 rw[hc];have hC1:∀x∈v::T,s.cn x=-1:=fun x hx=>by
  apply Classical.byContradiction;intro hne;exact((hI.don x).1 hne).2 ((hmem x).2 (.inr hx))
 have hd:∀x∈v::T,x∉s0.stk:=fun x hx h1=>hdis x h1 x hx rfl
 have hdone:∀u,c.cn u≠-1↔u∈v::T\/s.cn u≠-1:=fun u=>by
  grind
 have hback:∀y∈v::T,∀x∈sc y,x∈v::T\/s.cn x≠-1:=by
  intro y hy x hx;have hxi:s.ix x≠0:=by
   rcases List.mem_cons.1 hy with rfl|hyT
   ·exact h.prc x hx
   ·refine hI.blk y (hCn y hy).2 ?_ x hx;rintro(hg|rfl)
    ·exact hd y hy (h0.gst y hg)
    ·exact hvT hyT
  by_cases hxs:x∈s.stk
  ·rcases(hmem x).1 hxs with hx0|hxC
   ·exfalso;have h1:s.lw v<=s0.ix x:=by
     rcases List.mem_cons.1 hy with rfl|hyT
     ·exact h.ed2 x hx hx0
     ·exact h.ed1 y hyT x hx hx0
    have h2:=h0.nx x;have h3:=h.ixv;omega
   ·exact .inl hxC
  ·exact .inr ((hI.don x).2 ⟨hxi,hxs⟩)
 have hmut:∀u∈v::T,Reach sc v u/\Reach sc u v:=by
  intro u hu;have hus:u∈s.stk:=(hmem u).2 (.inr hu);have hle:s.ix v<=s.ix u:=by
   rcases List.mem_cons.1 hu with rfl|huT
   ·exact Nat.le_refl _
   ·have:=hI.ord;rw[h.stk,List.pairwise_append]at this;exact Nat.le_of_lt ((List.pairwise_cons.1 this.2.1).1 u huT)
  refine⟨hI.gfw v u (.inr rfl) hus hle,?_⟩;obtain⟨g,hg,h1,h2⟩:=hI.gbk u hus;rcases hg with hg|rfl
  ·refine h2.trans (hI.gfw g v (.inl hg) ((hmem v).2 (.inr (.head _))) ?_);have h3:=h0.stv g (h0.gst g hg);rw[h.kix g h3.2];have:=h0.nx g;have:=h.ixv;omega
  ·exact h2
 have cun:unv n c=unv n s:=by
  unfold unv;apply List.countP_congr;intro i _;rw[cix]
 refine⟨⟨cli,cll,clc,clo,?_,?_,?_,?_,?_,?_,?_,?_,?_,?_,?_,?_,?_,?_,?_,?_⟩,⟨?_,?_,?_,?_,?_,?_,?_,?_,?_,?_,?_⟩⟩
 ·intro u;rw[cix,cnx];exact hI.nx u
 ·intro u w;rw[cix,cix];exact hI.inj u w
 ·intro u;rw[con,cst];split
  ·have:=hd u ‹_›;simp[this]
  ·rw[hI.mem,hmem];simp_all
 ·intro u hu;rw[cst]at hu;rw[cix];exact hI.stv u ((hmem u).2 (.inl hu))
 ·rw[cst];have:=hI.ord;rw[h.stk,List.pairwise_append]at this;exact this.1.imp (fun hab=>by rw[cix,cix];exact hab)
 ·intro u;rw[hdone,cix,cst];constructor
  ·rintro(h1|h1)
   ·exact⟨(hCn u h1).2,hd u h1⟩
   ·have:=(hI.don u).1 h1;exact⟨this.1,fun h2=>this.2 ((hmem u).2 (.inl h2))⟩
  ·rintro⟨h1,h2⟩;by_cases h3:u∈v::T
   ·exact .inl h3
   ·exact .inr ((hI.don u).2 ⟨h1,fun h4=>((hmem u).1 h4).elim h2 h3⟩)
 ·intro u;rw[hdone,ccn,csz,List.length_append];intro h1;split
  ·simp;omega
  ·have:=hI.rng u (by simp_all);simp;omega
 ·intro u hu x hx;rw[hdone]at hu;rw[hdone,ccn,ccn];rcases hu with hu|hu
  ·rw[if_pos hu];rcases hback u hu x hx with h1|h1
   ·grind
   ·refine⟨.inr h1,?_⟩;have:=hI.rng x h1;split<;>omega
  ·have h1:=hI.suc u hu x hx;have hun:u∉v::T:=fun e=>hu (hC1 u e)
   have hxn:x∉v::T:=fun e=>h1.1 (hC1 x e)
   rw[if_neg hun,if_neg hxn];exact⟨.inr h1.1,h1.2⟩
 ·intro u w hu hw;rw[hdone]at hu hw;rw[ccn,ccn];have key:∀u w,u∈v::T->s.cn w≠-1->¬(Reach sc w u):=by
   intro u w hu hw hr;have:=hr.closed (p:=fun a=>s.cn a≠-1) (fun a ha b hb=>(hI.suc a ha b hb).1) hw;exact this (hC1 u hu)
  rcases hu with hu|hu<;>rcases hw with hw|hw
  ·rw[if_pos hu,if_pos hw];simp only[true_iff];exact⟨(hmut u hu).2.trans (hmut w hw).1,(hmut w hw).2.trans (hmut u hu).1⟩
  ·have hwn:w∉v::T:=fun e=>hw (hC1 w e)
   rw[if_pos hu,if_neg hwn];have:=hI.rng w hw;constructor
   ·intro;omega
   ·grind
  ·have hun:u∉v::T:=fun e=>hu (hC1 u e)
   rw[if_neg hun,if_pos hw];have:=hI.rng u hu;constructor
   ·intro;omega
   ·grind
  ·have hun:u∉v::T:=fun e=>hu (hC1 u e)
   have hwn:w∉v::T:=fun e=>hw (hC1 w e)
   rw[if_neg hun,if_neg hwn];exact hI.cmp u w hu hw
 ·intro k hk';rw[csz]at hk' ⊢;rw[List.length_append]at hk';simp only[List.length_cons,List.length_nil,Nat.zero_add]at hk';by_cases hks:k<s.sizes.length
  ·have:(s.sizes++[(v::T).length]).getD k 0=s.sizes.getD k 0:=by
    grind
   rw[this,hI.cnt k hks];apply List.countP_congr;intro i _;rw[ccn];split
   ·grind
   ·rfl
  ·have hke:k=s.sizes.length:=by omega
   subst hke;have:(s.sizes++[(v::T).length]).getD s.sizes.length 0=(v::T).length:=by
    grind
   rw[this,<-zji n (v::T) hnd2 (fun x hx=>(hCn x hx).1)];apply List.countP_congr;intro i _;rw[ccn];split
   ·simp_all
   ·have h1:s.cn i≠(s.sizes.length:Int):=by
     intro e;by_cases h2:s.cn i=-1
     ·omega
     ·have:=hI.rng i h2;omega
    simp_all
 ·intro g hg;rw[cst];exact h0.gst g hg
 ·intro g y hg hy hle;rw[cst]at hy;rw[cix,cix]at hle;exact hI.gfw g y (.inl hg) ((hmem y).2 (.inl hy)) hle
 ·intro y hy;rw[cst]at hy;obtain⟨g,h1,h2,h3⟩:=h0.gbk y hy;refine⟨g,h1,?_,h3⟩;rw[cix,cix,h.kix y (h0.stv y hy).2,h.kix g (h0.stv g (h0.gst g h1)).2];exact h2
 ·intro u hu hG x hx;rw[cix]at hu ⊢;by_cases huv:u=v
  ·subst huv;exact h.prc x hx
  ·exact hI.blk u hu (fun e=>e.elim hG huv) x hx
 ·rw[cnx,cun];exact hI.bn
 ·rw[csz,cst,cun];have:=hI.bz;rw[h.stk]at this;simp only[List.length_append,List.length_cons,List.length_nil]at *;omega
 ·rw[cst];simp
 ·intro u hu;rw[cix];exact h.kix u hu
 ·intro u hu;rw[clw];exact h.klw u hu
 ·intro u hu;rw[ccn];split
  ·rename_i hm;exfalso;have:=h.kcn u hu;rw[hC1 u hm]at this;exact hu this.symm
  ·exact h.kcn u hu
 ·rw[cnx];exact Nat.le_of_lt h.nxt
 ·rw[cix,h.ixv];omega
 ·intro u h1 h2;rw[cix]at h2 ⊢;exact h.new u h1 h2
 ·intro u h1 h2;rw[cix]at h2;exact h.rch u h1 h2
 ·grind
 ·intro e;cases e
 ·intro e;cases e
end
section
variable {sc:Nat->List Nat} {n:Nat} {G:Nat->Prop} {s s':TS} {v:Nat}
theorem Loop.stay {s0:TS} {T:List Nat} (h0:Inv sc n G s0) (h:Loop sc n G s0 s v T (sc v)) (hl:s.lw v≠s.ix v):
 Inv sc n G s/\Post sc s0 s v (v::T):=by
 have hI:=h.inv;have hmem:∀u,u∈s.stk↔u∈s0.stk\/u∈v::T:=fun u=>by rw[h.stk,List.mem_append]
 obtain⟨z,hz,hzl,hzr⟩:=h.att.resolve_left hl;obtain⟨g0,hg0,hgz,hzg⟩:=h0.gbk z hz;have hlt:s0.ix z<s.ix v:=by have:=h.ixv;have:=h0.nx z;omega
 refine⟨⟨hI.li,hI.ll,hI.lc,hI.lo,hI.nx,hI.inj,hI.mem,hI.stv,hI.ord,hI.don,hI.rng,hI.suc,hI.cmp,hI.cnt,?_,?_,?_,?_,hI.bn,hI.bz⟩,⟨h.stk,h.kix,h.klw,h.kcn,Nat.le_of_lt h.nxt,?_,h.new,h.rch,?_,?_,?_⟩⟩
 ·intro g hg;exact(hmem g).2 (.inl (h0.gst g hg))
 ·intro g y hg;exact hI.gfw g y (.inl hg)
 ·intro y hy;obtain⟨g,h1,h2,h3⟩:=hI.gbk y hy;rcases h1 with h1|rfl
  ·exact⟨g,h1,h2,h3⟩
  ·refine⟨g0,hg0,?_,h3.trans (hzr.trans hzg)⟩;rw[h.kix g0 (h0.stv g0 (h0.gst g0 hg0)).2];omega
 ·intro u hu hG x hx;by_cases huv:u=v
  ·subst huv;exact h.prc x hx
  ·exact hI.blk u hu (fun e=>e.elim hG huv) x hx
 ·rw[h.ixv];omega
 ·grind
 ·intro _;exact⟨z,hz,hzl,hzr⟩
 ·intro _ y hy z' hz' hz0;rcases List.mem_cons.1 hy with rfl|hyT
  ·exact h.ed2 z' hz' hz0
  ·exact h.ed1 y hyT z' hz' hz0
theorem Loop.start (h0:Inv sc n G s) (hv:v<n) (hv0:s.ix v=0) (hg:∀g,G g->Reach sc g v):Loop sc n G s (s.push v) v [] []:=by
 have hix:=zhg (s:=s) (v:=v) (by rw[h0.li];exact hv);have hlw:=zqw (s:=s) (v:=v) (by rw[h0.ll];exact hv);refine⟨h0.push hv hv0 hg,rfl,?_,?_,fun _ _=>rfl,Nat.lt_succ_self _,?_,?_,?_,?_,?_,?_,?_,?_⟩
 ·grind
 ·grind
 ·rw[hix,if_pos rfl]
 ·grind
 ·intro u h1 h2;rw[hix]at h2;split at h2
  ·subst u;exact .refl _
  ·exact absurd h1 h2
 ·intro x hx;cases hx
 ·grind
 ·grind
 ·intro y hy;cases hy
 ·intro x hx;cases hx
theorem Loop.lowered {s0:TS} {T P:List Nat} (_h0:Inv sc n G s0) (hv:v<n) (hv0:s0.ix v=0) (h:Loop sc n G s0 s v T P) (x m:Nat) (hx:s.ix x≠0)
 (hm:s.lw v<=m\/∃z∈s0.stk,s0.ix z=m/\Reach sc v z) (hx0:x∈s0.stk->m<=s0.ix x):Loop sc n G s0 (s.lower v m) v T (P++[x]):=by
 have hlw:=zie (s:=s) (v:=v) (by rw[h.inv.ll];exact hv) m;have hvl:(s.lower v m).lw v=min (s.lw v) m:=by rw[hlw,if_pos rfl]
 refine⟨h.inv.lower m,h.stk,h.kix,?_,h.kcn,h.nxt,h.ixv,h.new,h.rch,?_,?_,?_,?_,?_⟩
 ·intro u hu;rw[hlw,if_neg (fun(e:u=v)=>hu (by rw[e];exact hv0))];exact h.klw u hu
 ·intro y hy;rcases List.mem_append.1 hy with hy|hy
  ·exact h.prc y hy
  ·rw[List.mem_singleton]at hy;subst hy;exact hx
 ·rw[hvl];have:=h.lwv;show _<=s.ix v;omega
 ·rw[hvl];rcases hm with hm|⟨z,h1,h2,h3⟩
  ·rw[Nat.min_eq_left hm];exact h.att
  ·by_cases hle:s.lw v<=m
   ·rw[Nat.min_eq_left hle];exact h.att
   ·grind
 ·intro y hy z hz hz0;rw[hvl];have:=h.ed1 y hy z hz hz0;omega
 ·intro y hy hy0;rw[hvl];rcases List.mem_append.1 hy with hy|hy
  ·have:=h.ed2 y hy hy0;omega
  ·grind
theorem Loop.old {s0:TS} {T P:List Nat} (h0:Inv sc n G s0) (hv:v<n) (hv0:s0.ix v=0) (h:Loop sc n G s0 s v T P) (vis:TS->Nat->TS) (x:Nat) (hxs:x∈sc v) (hx:s.ix x≠0):
 Loop sc n G s0 (tstep vis v s x) v T (P++[x]):=by
 unfold tstep;rw[if_neg hx];have hmem:∀u,u∈s.stk↔u∈s0.stk\/u∈v::T:=fun u=>by rw[h.stk,List.mem_append]
 by_cases hon:s.onn x=true
 ·rw[if_pos hon];have hxm:=(h.inv.mem x).1 hon;refine h.lowered h0 hv hv0 x _ hx ?_ ?_
  ·rcases(hmem x).1 hxm with h1|h1
   ·exact .inr ⟨x,h1,(h.kix x (h0.stv x h1).2).symm,.one hxs⟩
   ·left;have hle:s.ix v<=s.ix x:=by
     rcases List.mem_cons.1 h1 with rfl|h2
     ·exact Nat.le_refl _
     ·have:=h.inv.ord;rw[h.stk,List.pairwise_append]at this;exact Nat.le_of_lt ((List.pairwise_cons.1 this.2.1).1 x h2)
    have:=h.lwv;omega
  ·intro h1;rw[h.kix x (h0.stv x h1).2];exact Nat.le_refl _
 ·rw[if_neg hon];have hxm:x∉s.stk:=fun e=>hon ((h.inv.mem x).2 e)
  refine⟨h.inv,h.stk,h.kix,h.klw,h.kcn,h.nxt,h.ixv,h.new,h.rch,?_,h.lwv,h.att,h.ed1,?_⟩
  ·intro y hy;rcases List.mem_append.1 hy with hy|hy
   ·exact h.prc y hy
   ·grind
  ·intro y hy hy0;rcases List.mem_append.1 hy with hy|hy
   ·exact h.ed2 y hy hy0
   ·grind
theorem Loop.fresh {s0:TS} {T P T2:List Nat} (h0:Inv sc n G s0) (hv:v<n) (hv0:s0.ix v=0) (h:Loop sc n G s0 s v T P) (vis:TS->Nat->TS) (x:Nat) (hxs:x∈sc v) (hx:s.ix x=0)
 (hI:Inv sc n (fun u=>G u\/u=v) (vis s x)) (hP:Post sc s (vis s x) x T2):Loop sc n G s0 (tstep vis v s x) v (T++T2) (P++[x]):=by
 unfold tstep;rw[if_pos hx];obtain⟨q,hq⟩:∃q,vis s x=q:=⟨_,rfl⟩
 rw[hq]at hI hP ⊢;have hmem:∀u,u∈s.stk↔u∈s0.stk\/u∈v::T:=fun u=>by rw[h.stk,List.mem_append]
 have hvx:s.ix v≠0:=by rw[h.ixv];omega
 have hs0:∀u,s0.ix u≠0->s.ix u≠0:=fun u hu=>by rw[h.kix u hu];exact hu
 have hqv:q.lw v=s.lw v:=hP.klw v hvx;have hqi:q.ix v=s.ix v:=hP.kix v hvx;have hlx:q.lw v<=q.lw x\/∃z∈s0.stk,s0.ix z=q.lw x/\Reach sc v z:=by
  by_cases hm:x∈T2
  ·obtain⟨z,hz,h1,h2⟩:=hP.att hm;rcases(hmem z).1 hz with h3|h3
   ·exact .inr ⟨z,h3,by rw[<-h1,h.kix z (h0.stv z h3).2],.step hxs h2⟩
   ·left;rw[hqv,<-h1];have hle:s.ix v<=s.ix z:=by
     rcases List.mem_cons.1 h3 with rfl|h4
     ·exact Nat.le_refl _
     ·have:=h.inv.ord;rw[h.stk,List.pairwise_append]at this;exact Nat.le_of_lt ((List.pairwise_cons.1 this.2.1).1 z h4)
    have:=h.lwv;omega
  ·left;have h1:=(hP.out hm).2;have h2:=hP.new x hx hP.vis;have h3:=h.inv.nx v;have:=h.lwv;rw[hqv,h1];omega
 have hlw:=zie (s:=q) (v:=v) (by rw[hI.ll];exact hv) (q.lw x);have hvl:(q.lower v (q.lw x)).lw v=min (s.lw v) (q.lw x):=by rw[hlw,if_pos rfl,hqv]
 refine⟨hI.lower _,by show q.stk=_;rw[hP.stk,h.stk];simp,?_,?_,?_,Nat.lt_of_lt_of_le h.nxt hP.nxt,by rw[<-h.ixv];exact hqi,?_,?_,?_,?_,?_,?_,?_⟩
 ·intro u hu;show q.ix u=_;rw[hP.kix u (hs0 u hu)];exact h.kix u hu
 ·intro u hu;rw[hlw,if_neg (fun(e:u=v)=>hu (by rw[e];exact hv0)),hP.klw u (hs0 u hu)];exact h.klw u hu
 ·intro u hu;have:=h.kcn u hu;show q.cn u=_;rw[hP.kcn u (by rw[this];exact hu)];exact this
 ·intro u h1 h2;have h2:q.ix u≠0:=h2;show s0.next<q.ix u;by_cases h3:s.ix u=0
  ·have:=hP.new u h3 h2;have:=h.nxt;omega
  ·rw[hP.kix u h3];exact h.new u h1 h3
 ·intro u h1 h2;have h2:q.ix u≠0:=h2;by_cases h3:s.ix u=0
  ·exact .step hxs (hP.rch u h3 h2)
  ·exact h.rch u h1 h3
 ·intro y hy;show q.ix y≠0;rcases List.mem_append.1 hy with hy|hy
  ·have:=h.prc y hy;rw[hP.kix y this];exact this
  ·rw[List.mem_singleton]at hy;subst hy;exact hP.vis
 ·rw[hvl];have:=h.lwv;show _<=q.ix v;rw[hqi];omega
 ·rw[hvl];show _=q.ix v\/_;rw[hqi];rcases hlx with h1|⟨z,h1,h2,h3⟩
  ·rw[hqv]at h1;rw[Nat.min_eq_left h1];exact h.att
  ·by_cases hle:s.lw v<=q.lw x
   ·rw[Nat.min_eq_left hle];exact h.att
   ·grind
 ·intro y hy z hz hz0;rw[hvl];rcases List.mem_append.1 hy with hy|hy
  ·have:=h.ed1 y hy z hz hz0;omega
  ·have hm:x∈T2:=Classical.byContradiction (fun e=>by rw[(hP.out e).1]at hy;cases hy);have h1:=hP.edg hm y hy z hz ((hmem z).2 (.inl hz0));rw[h.kix z (h0.stv z hz0).2]at h1;omega
 ·intro y hy hy0;rw[hvl];rcases List.mem_append.1 hy with hy|hy
  ·have:=h.ed2 y hy hy0;omega
  ·rw[List.mem_singleton]at hy;subst hy;exact absurd hx (hs0 y (h0.stv y hy0).2)
theorem zig (h:∀u,s.ix u≠0->s'.ix u≠0):unv n s'<=unv n s:=by
 refine zdx _ _ _ (fun u _ hu=>?_);have hu:s'.ix u=0:=by simpa using hu
 have:s.ix u=0:=Classical.byContradiction (fun e=>h u e hu);simpa using this
theorem zdm (h0:Inv sc n G s) (hv:v<n) (hv0:s.ix v=0):unv n (s.push v)<unv n s:=by
 have hix:=zhg (s:=s) (v:=v) (by rw[h0.li];exact hv);refine zcr _ _ _ (fun u _ hu=>?_) v (List.mem_range.2 hv) ?_ (by simpa using hv0)
 ·grind
 ·rw[hix,if_pos rfl];simp
theorem ze9 (hsc:∀a,∀b∈sc a,b<n):∀(f:Nat) (s:TS) (v:Nat) (G:Nat->Prop),Inv sc n G s->v<n->s.ix v=0->(∀g,G g->Reach sc g v)->unv n s<=f->
 ∃T,Inv sc n G (tvisit sc f s v)/\Post sc s (tvisit sc f s v) v T:=by
 intro f
 induction f with
 |zero=>
  intro s v G h hv hv0 _ hu;exfalso;have:=zdm h hv hv0;omega
 |succ f ih=>
  intro s0 v G h0 hv hv0 hg hu;have hup:=zdm h0 hv hv0;have key:∀(L P:List Nat) (s:TS) (T:List Nat),sc v=P++L->unv n s<=f->Loop sc n G s0 s v T P->∃T',Loop sc n G s0 (L.foldl (tstep (tvisit sc f) v) s) v T' (sc v):=by
   intro L
   induction L with
   |nil=>
    grind
   |cons x L ihL=>
    intro P s T hL hun h;have hxs:x∈sc v:=by rw[hL];simp
    have hL':sc v=(P++[x])++L:=by rw[hL];simp
    rw[List.foldl_cons];by_cases hx:s.ix x=0
    ·have hgx:∀g,(G g\/g=v)->Reach sc g x:=by
      rintro g (h1|rfl)
      ·exact(hg g h1).trans (.one hxs)
      ·exact .one hxs
     obtain⟨T2,hI,hP⟩:=ih s x (fun u=>G u\/u=v) h.inv (hsc v x hxs) hx hgx hun;refine ihL (P++[x]) _ (T++T2) hL' ?_ (h.fresh h0 hv hv0 _ x hxs hx hI hP);refine Nat.le_trans (zig (fun u hu=>?_)) hun;unfold tstep;rw[if_pos hx];show(tvisit sc f s x).ix u≠0;rw[hP.kix u hu];exact hu
    ·refine ihL (P++[x]) _ T hL' ?_ (h.old h0 hv hv0 _ x hxs hx);refine Nat.le_trans (zig (fun u hu=>?_)) hun;unfold tstep;rw[if_neg hx];split<;>exact hu
  obtain⟨T,hT⟩:=key (sc v) [] (s0.push v) [] rfl (by omega) (Loop.start h0 hv hv0 hg);obtain⟨q,hq⟩:∃q,(sc v).foldl (tstep (tvisit sc f) v) (s0.push v)=q:=⟨_,rfl⟩
  show∃T,Inv sc n G (tfin _ v)/\Post sc s0 (tfin _ v) v T;rw[hq]at hT ⊢;unfold tfin;by_cases hl:q.lw v=q.ix v
  ·rw[if_pos hl];exact⟨[],hT.close h0 hv hv0 hl⟩
  ·rw[if_neg hl];exact⟨v::T,hT.stay h0 hl⟩
theorem zdg (hsc:∀a,∀b∈sc a,b<n) (f:Nat) (s0:TS) (v:Nat) (h0:Inv sc n G s0) (hv:v<n) (hv0:s0.ix v=0) (hg:∀g,G g->Reach sc g v) (hu:unv n s0<=f+1):
 ∀k,k<=(sc v).length->∃T,Loop sc n G s0 (((sc v).take k).foldl (tstep (tvisit sc f) v) (s0.push v)) v T ((sc v).take k)/\unv n (((sc v).take k).foldl (tstep (tvisit sc f) v) (s0.push v))<=f:=by
 intro k
 induction k with
 |zero=>
  intro _;have:=zdm h0 hv hv0;exact⟨[],Loop.start h0 hv hv0 hg,by simp only[List.take_zero,List.foldl_nil];omega⟩
 |succ k ih=>
  intro hk;obtain⟨T,hT,hun⟩:=ih (by omega);have hkl:k<(sc v).length:=by omega
  obtain⟨x,hx⟩:∃x,(sc v)[k]=x:=⟨_,rfl⟩
  have hxs:x∈sc v:=hx▸List.getElem_mem hkl;rw[List.take_succ_eq_append_getElem hkl,List.foldl_append,hx];obtain⟨s,hs⟩:∃s,((sc v).take k).foldl (tstep (tvisit sc f) v) (s0.push v)=s:=⟨_,rfl⟩
  rw[hs]at hT hun ⊢;show∃T,Loop sc n G s0 (tstep (tvisit sc f) v s x) v T _/\_;by_cases hxi:s.ix x=0
  ·have hgx:∀g,(G g\/g=v)->Reach sc g x:=by
    rintro g (h1|rfl)
    ·exact(hg g h1).trans (.one hxs)
    ·exact .one hxs
   obtain⟨T2,hI,hP⟩:=ze9 hsc f s x (fun u=>G u\/u=v) hT.inv (hsc v x hxs) hxi hgx hun;refine⟨T++T2,hT.fresh h0 hv hv0 _ x hxs hxi hI hP,?_⟩;refine Nat.le_trans (zig (fun u hu=>?_)) hun;show(tstep (tvisit sc f) v s x).ix u≠0;unfold tstep;rw[if_pos hxi];show(tvisit sc f s x).ix u≠0;rw[hP.kix u hu];exact hu
  ·refine⟨T,hT.old h0 hv hv0 _ x hxs hxi,?_⟩;refine Nat.le_trans (zig (fun u hu=>?_)) hun;show(tstep (tvisit sc f) v s x).ix u≠0;unfold tstep;rw[if_neg hxi];split<;>exact hu
def tzero (n:Nat):TS:=⟨List.replicate n 0,List.replicate n 0,List.replicate n (-1),[],[],List.replicate n false,0⟩
theorem zb9 (n v:Nat):(tzero n).ix v=0:=by
 unfold TS.ix tzero;simp[List.getD_eq_getElem?_getD,List.getElem?_replicate];split<;>rfl
theorem zdn (n v:Nat):(tzero n).cn v=-1:=by
 unfold TS.cn tzero;simp[List.getD_eq_getElem?_getD,List.getElem?_replicate];split<;>rfl
theorem zk4 (n v:Nat):(tzero n).onn v=false:=by
 unfold TS.onn tzero;simp[List.getD_eq_getElem?_getD,List.getElem?_replicate];split<;>rfl
theorem zf7 (n:Nat):Inv sc n (fun _=>False) (tzero n):=by
 have hun:unv n (tzero n)<=n:=by unfold unv;exact Nat.le_trans List.countP_le_length (by simp)
 refine⟨by simp[tzero],by simp[tzero],by simp[tzero],by simp[tzero],?_,?_,?_,?_,by simp[tzero],?_,?_,?_,?_,?_,?_,?_,?_,?_,?_,?_⟩
 ·intro v;rw[zb9];exact Nat.zero_le _
 ·intro u v h;exact absurd (zb9 n u) h
 ·intro v;rw[zk4];simp[tzero]
 ·intro v hv;cases hv
 ·intro v;rw[zdn,zb9];simp
 ·intro v h;exact absurd (zdn n v) h
 ·intro v h;exact absurd (zdn n v) h
 ·intro u v h;exact absurd (zdn n u) h
 ·intro c h;exact absurd h (by simp[tzero])
 ·intro g h;exact h.elim
 ·intro g y h;exact h.elim
 ·intro y h;cases h
 ·intro v h;exact absurd (zb9 n v) h
 ·show 0+_<=n;omega
 ·show([]:List Nat).length+([]:List Nat).length+_<=n;simpa using hun
def tcomp (sc:Nat->List Nat) (n root:Nat):TS:=tvisit sc n (tzero n) root
structure Comp (sc:Nat->List Nat) (n:Nat) (inn:Nat->Int) (sizes:List Nat):Prop where
 rng:∀v,v<n->0<=inn v/\inn v<sizes.length
 suc:∀v,v<n->∀x∈sc v,inn x<=inn v
 cmp:∀u v,u<n->v<n->(inn u=inn v↔Reach sc u v/\Reach sc v u)
 cnt:∀c:Nat,c<sizes.length->sizes.getD c 0=(List.range n).countP (fun i=>inn i==(c:Int))
theorem zn9 (hsc:∀a,∀b∈sc a,b<n) (root:Nat) (hr:root<n) (hall:∀v,v<n->Reach sc root v):
 Comp sc n (tcomp sc n root).cn (tcomp sc n root).sizes/\(tcomp sc n root).inn.length=n/\(tcomp sc n root).sizes.length<=n:=by
 have hun:unv n (tzero n)<=n:=by
  unfold unv;exact Nat.le_trans List.countP_le_length (by simp)
 obtain⟨T,hI,hP⟩:=ze9 hsc n (tzero n) root (fun _=>False) (zf7 n) hr (zb9 n root) (fun g h=>h.elim) hun;obtain⟨q,hq⟩:∃q,tvisit sc n (tzero n) root=q:=⟨_,rfl⟩
 unfold tcomp;rw[hq]at hI hP ⊢;have hst:∀v,v∉q.stk:=fun v hv=>by obtain⟨g,h,_⟩:=hI.gbk v hv;exact h
 have hrd:q.cn root≠-1:=(hI.don root).2 ⟨hP.vis,hst root⟩;have hd:∀v,v<n->q.cn v≠-1:=fun v hv=>(hall v hv).closed (p:=fun a=>q.cn a≠-1) (fun a ha b hb=>(hI.suc a ha b hb).1) hrd
 exact⟨⟨fun v hv=>hI.rng v (hd v hv),fun v hv x hx=>(hI.suc v (hd v hv) x hx).2,fun u v hu hv=>hI.cmp u v (hd u hu) (hd v hv),hI.cnt⟩,hI.lc,by have:=hI.bz;omega⟩
end
def dvisit (sc:Nat->List Nat):Nat->List Bool->Nat->List Bool
 | 0,m,_=>m
 |f+1,m,a=>if m.getD a false then m else(sc a).foldl (dvisit sc f) (m.set a true)
def mkd (m:List Bool) (x:Nat):Bool:=m.getD x false
def unm (n:Nat) (m:List Bool):Nat:=(List.range n).countP (fun i=>!mkd m i)
section
variable {sc:Nat->List Nat} {n:Nat} {m m':List Bool} {a:Nat}
structure DP (sc:Nat->List Nat) (n:Nat) (m m':List Bool) (P:List Nat):Prop where
 len:m'.length=n
 keep:∀x,mkd m x=true->mkd m' x=true
 prc:∀p∈P,mkd m' p=true
 rch:∀x,mkd m' x=true->mkd m x=true\/∃p∈P,Reach sc p x
 suc:∀x,mkd m' x=true->mkd m x=false->∀y∈sc x,mkd m' y=true
theorem DP.refl (h:m.length=n):DP sc n m m []:=⟨h,fun _ h=>h,fun p h=>(by cases h),fun x h=>.inl h,fun x h1 h2=>by rw[h1]at h2;cases h2⟩
theorem DP.snoc {m2:List Bool} {P Q:List Nat} (h:DP sc n m m' P) (h2:DP sc n m' m2 Q):DP sc n m m2 (P++Q):=by
 refine⟨h2.len,fun x hx=>h2.keep x (h.keep x hx),?_,?_,?_⟩
 ·intro p hp;rcases List.mem_append.1 hp with hp|hp
  ·exact h2.keep p (h.prc p hp)
  ·exact h2.prc p hp
 ·intro x hx;rcases h2.rch x hx with h3|⟨p,hp,hr⟩
  ·rcases h.rch x h3 with h4|⟨p,hp,hr⟩
   ·exact .inl h4
   ·grind
  ·grind
 ·intro x hx hm y hy;by_cases h3:mkd m' x=true
  ·exact h2.keep y (h.suc x h3 hm y hy)
  ·exact h2.suc x hx (by simpa using h3) y hy
theorem zp8 (h:∀x,mkd m x=true->mkd m' x=true):unm n m'<=unm n m:=by
 refine zdx _ _ _ (fun u _ hu=>?_);have hu:mkd m' u=false:=by simpa using hu
 have:mkd m u=false:=by cases e:mkd m u with|false=>rfl|true=>rw[h u e]at hu;cases hu
 simp[this]
theorem zp9 (h:a<m.length) (x:Nat):mkd (m.set a true) x=if x=a then true else mkd m x:=by
 unfold mkd;split
 ·grind
 ·grind
theorem zfa (hl:m.length=n) (ha:a<n) (hm:mkd m a=false):unm n (m.set a true)<unm n m:=by
 have hs:=zp9 (m:=m) (a:=a) (by omega);refine zcr _ _ _ (fun u _ hu=>?_) a (List.mem_range.2 ha) ?_ (by simp[hm])
 ·grind
 ·rw[hs,if_pos rfl];rfl
theorem zfb {f:Nat} (ih:∀(m:List Bool) (a:Nat),m.length=n->a<n->unm n m<=f->DP sc n m (dvisit sc f m a) [a]):∀(L:List Nat) (m:List Bool),(∀x∈L,x<n)->m.length=n->unm n m<=f->DP sc n m (L.foldl (dvisit sc f) m) L:=by
 intro L
 induction L with
 |nil=>intro m _ hl _;exact DP.refl hl
 |cons x L ihL=>
  intro m hL hl hu;rw[List.foldl_cons];have h1:=ih m x hl (hL x (.head _)) hu;exact h1.snoc (ihL _ (fun y hy=>hL y (.tail _ hy)) h1.len (Nat.le_trans (zp8 h1.keep) hu))
theorem zbx (hsc:∀a,∀b∈sc a,b<n):∀(f:Nat) (m:List Bool) (a:Nat),m.length=n->a<n->unm n m<=f->DP sc n m (dvisit sc f m a) [a]:=by
 intro f
 induction f with
 |zero=>
  intro m a hl ha hu;have hm:mkd m a=true:=by
   cases e:mkd m a with
   |true=>rfl
   |false=>have:=zfa hl ha e;omega
  exact⟨hl,fun _ h=>h,fun p hp=>by rw[List.mem_singleton]at hp;rw[hp];exact hm,fun x h=>.inl h,fun x h1 h2=>by
   have h1:mkd m x=true:=h1;rw[h1]at h2;cases h2⟩
 |succ f ih=>
  intro m a hl ha hu;unfold dvisit;by_cases hm:m.getD a false=true
  ·rw[if_pos hm];exact⟨hl,fun _ h=>h,fun p hp=>by rw[List.mem_singleton]at hp;rw[hp];exact hm,fun x h=>.inl h,fun x h1 h2=>by rw[h1]at h2;cases h2⟩
  ·rw[if_neg hm];have hmf:mkd m a=false:=by unfold mkd;simpa using hm
   have hs:=zp9 (m:=m) (a:=a) (by omega);have hu2:=zfa hl ha hmf;have h1:=zfb ih (sc a) (m.set a true) (hsc a) (by simp[hl]) (by omega);refine⟨h1.len,fun x hx=>h1.keep x (by rw[hs];split<;>simp_all),?_,?_,?_⟩
   ·intro p hp;rw[List.mem_singleton]at hp;rw[hp];exact h1.keep a (by rw[hs,if_pos rfl])
   ·intro x hx;rcases h1.rch x hx with h2|⟨p,hp,hr⟩
    ·rw[hs]at h2;split at h2
     ·exact .inr ⟨a,.head _,by subst x;exact .refl _⟩
     ·exact .inl h2
    ·exact .inr ⟨a,.head _,.step hp hr⟩
   ·intro x hx hmx y hy;by_cases hxa:x=a
    ·subst hxa;exact h1.prc y hy
    ·exact h1.suc x hx (by rw[hs,if_neg hxa];exact hmx) y hy
theorem DP.closed {P:List Nat} (h:DP sc n m m' P) (hc:∀x,mkd m x=true->∀y∈sc x,mkd m y=true):
 (∀x,mkd m' x=true↔mkd m x=true\/∃p∈P,Reach sc p x)/\(∀x,mkd m' x=true->∀y∈sc x,mkd m' y=true):=by
 have hcl:∀x,mkd m' x=true->∀y∈sc x,mkd m' y=true:=fun x hx y hy=>by
  by_cases hm:mkd m x=true
  ·exact h.keep y (hc x hm y hy)
  ·exact h.suc x hx (by simpa using hm) y hy
 refine⟨fun x=>⟨h.rch x,?_⟩,hcl⟩;rintro(h1|⟨p,hp,hr⟩)
 ·exact h.keep x h1
 ·exact hr.closed (p:=fun a=>mkd m' a=true) hcl (h.prc p hp)
end
theorem foldl_flat {α β γ:Type} (f:γ->β->γ) (g:α->List β) (L:List α) (p:γ):L.foldl (fun p i=>(g i).foldl f p) p=(L.flatMap g).foldl f p:=by
 induction L generalizing p with
 |nil=>rfl
 |cons x L ih=>rw[List.foldl_cons,List.flatMap_cons,List.foldl_append,ih]
def members (inn:Nat->Int) (n c:Nat):List Nat:=(List.range n).filter (fun i=>inn i==(c:Int))
def dstep (inn:Nat->Int) (c:Nat) (p:List Nat×Bool) (x:Nat):List Nat×Bool:=
 if inn x=(c:Int)then(p.1,false)else(p.1.set c (max (p.1.getD c 0) (p.1.getD (inn x).toNat 0)),p.2)
def dcomp (sc:Nat->List Nat) (inn:Nat->Int) (n:Nat) (sizes:List Nat) (p:List Nat×Bool) (c:Nat):List Nat×Bool:=
 let q:=(members inn n c).foldl (fun p i=>(sc i).foldl (dstep inn c) p) p
 (q.1.set c (q.1.getD c 0+sizes.getD c 0),q.2)
def dall (sc:Nat->List Nat) (inn:Nat->Int) (n:Nat) (sizes:List Nat):List Nat×Bool:=
 (List.range sizes.length).foldl (dcomp sc inn n sizes) (List.replicate sizes.length 0,true)
structure Long (sc:Nat->List Nat) (inn:Nat->Int) (n:Nat) (sz F:Nat->Nat):Prop where
 szs:∀u v,inn u=inn v->sz u=sz v
 same:∀u v,inn u=inn v->F u=F v
 up:∀u,u<n->∀x∈sc u,inn x≠inn u->sz u+F x<=F u
 att:∀v,v<n->F v=sz v\/∃u,u<n/\inn u=inn v/\∃x∈sc u,inn x≠inn u/\F v=sz v+F x
section
variable {sc:Nat->List Nat} {inn:Nat->Int} {n:Nat} {sizes:List Nat}
structure IP (inn:Nat->Int) (c:Nat) (b0:List Nat) (a0:Bool) (p:List Nat×Bool) (P:List Nat):Prop where
 len:p.1.length=b0.length
 far:∀k,k≠c->p.1.getD k 0=b0.getD k 0
 up:∀x∈P,inn x≠(c:Int)->b0.getD (inn x).toNat 0<=p.1.getD c 0
 att:p.1.getD c 0=0\/∃x∈P,inn x≠(c:Int)/\p.1.getD c 0=b0.getD (inn x).toNat 0
 ac:p.2=true↔a0=true/\∀x∈P,inn x≠(c:Int)
theorem IP.fold {c:Nat} {b0:List Nat} {a0:Bool} (hc:c<b0.length):∀(L P:List Nat) (p:List Nat×Bool),(∀x∈L,0<=inn x)->IP inn c b0 a0 p P->IP inn c b0 a0 (L.foldl (dstep inn c) p) (P++L):=by
 intro L
 induction L with
 |nil=>intro P p _ h;rw[List.append_nil];exact h
 |cons x L ih=>
  intro P p hn h;rw[List.foldl_cons,show P++x::L=(P++[x])++L from by simp];refine ih _ _ (fun y hy=>hn y (.tail _ hy)) ?_;have hx0:=hn x (.head _);unfold dstep;by_cases hx:inn x=(c:Int)
  ·rw[if_pos hx];refine⟨h.len,h.far,?_,?_,?_⟩
   ·intro y hy hyc;rcases List.mem_append.1 hy with hy|hy
    ·exact h.up y hy hyc
    ·grind
   ·rcases h.att with h1|⟨y,h1,h2⟩
    ·exact .inl h1
    ·grind
   ·grind
  ·rw[if_neg hx];have hxk:(inn x).toNat≠c:=fun e=>hx (by omega)
   have hcl:c<p.1.length:=by rw[h.len];exact hc
   have hself:(p.1.set c (max (p.1.getD c 0) (p.1.getD (inn x).toNat 0))).getD c 0=max (p.1.getD c 0) (b0.getD (inn x).toNat 0):=by
    rw[za6 _ _ _ _ hcl,h.far _ hxk]
   refine⟨by simp[h.len],?_,?_,?_,?_⟩
   ·intro k hk;rw[getD_set_ne _ _ _ _ _ (Ne.symm hk)];exact h.far k hk
   ·intro y hy hyc;rw[hself];rcases List.mem_append.1 hy with hy|hy
    ·have:=h.up y hy hyc;omega
    ·grind
   ·rw[hself];by_cases hle:b0.getD (inn x).toNat 0<=p.1.getD c 0
    ·rw[Nat.max_eq_left hle];rcases h.att with h1|⟨y,h1,h2⟩
     ·exact .inl h1
     ·grind
    ·grind
   ·rw[h.ac];constructor
    ·grind
    ·rintro⟨h1,h2⟩;exact⟨h1,fun y hy=>h2 y (List.mem_append_left _ hy)⟩
structure BI (sc:Nat->List Nat) (inn:Nat->Int) (n:Nat) (sizes:List Nat) (k:Nat) (p:List Nat×Bool):Prop where
 len:p.1.length=sizes.length
 rest:∀c,k<=c->p.1.getD c 0=0
 up:∀u,u<n->inn u<(k:Int)->∀x∈sc u,inn x≠inn u->sizes.getD (inn u).toNat 0+p.1.getD (inn x).toNat 0<=p.1.getD (inn u).toNat 0
 att:∀c,c<k->p.1.getD c 0=sizes.getD c 0\/∃u,u<n/\inn u=(c:Int)/\∃x∈sc u,inn x≠(c:Int)/\p.1.getD c 0=sizes.getD c 0+p.1.getD (inn x).toNat 0
 ac:p.2=true↔∀u,u<n->inn u<(k:Int)->∀x∈sc u,inn x≠inn u
theorem BI.next (hsc:∀a,∀b∈sc a,b<n) (hr:∀v,v<n->0<=inn v/\inn v<sizes.length) (hs:∀v,v<n->∀x∈sc v,inn x<=inn v) {c:Nat} {p:List Nat×Bool} (hc:c<sizes.length) (h:BI sc inn n sizes c p):
 BI sc inn n sizes (c+1) (dcomp sc inn n sizes p c):=by
 unfold dcomp;rw[foldl_flat];have hmem:∀x,x∈(members inn n c).flatMap sc↔∃u,u<n/\inn u=(c:Int)/\x∈sc u:=by
  intro x;simp[members,List.mem_flatMap,and_assoc]
 obtain⟨q,hq⟩:∃q,((members inn n c).flatMap sc).foldl (dstep inn c) p=q:=⟨_,rfl⟩
 have hi:IP inn c p.1 p.2 q ((members inn n c).flatMap sc):=by
  have h0:IP inn c p.1 p.2 p []:=⟨rfl,fun _ _=>rfl,fun x hx=>(by cases hx),.inl (h.rest c (Nat.le_refl _)),⟨fun h=>⟨h,fun x hx=>(by cases hx)⟩,fun h=>h.1⟩⟩
  have:=IP.fold (by rw[h.len];exact hc) ((members inn n c).flatMap sc) [] p (fun x hx=>by
   obtain⟨u,hu,_,hxu⟩:=(hmem x).1 hx;exact(hr x (hsc u x hxu)).1) h0
  rw[hq]at this;simpa using this
 rw[hq];simp only;have hql:q.1.length=sizes.length:=by rw[hi.len,h.len]
 have hself:(q.1.set c (q.1.getD c 0+sizes.getD c 0)).getD c 0=q.1.getD c 0+sizes.getD c 0:=za6 _ _ _ _ (by omega);have hfar:∀k,k≠c->(q.1.set c (q.1.getD c 0+sizes.getD c 0)).getD k 0=p.1.getD k 0:=fun k hk=>by
  rw[getD_set_ne _ _ _ _ _ (Ne.symm hk),hi.far k hk]
 refine⟨by simp[hql],?_,?_,?_,?_⟩
 ·intro k hk;rw[hfar k (by omega)];exact h.rest k (by omega)
 ·intro u hu huk x hx hxu;have h1:=hr u hu;have h2:=hr x (hsc u x hx);have h3:=hs u hu x hx;rw[hfar (inn x).toNat (by omega)];by_cases hue:inn u=(c:Int)
  ·rw[show(inn u).toNat=c from by omega,hself];have:=hi.up x ((hmem x).2 ⟨u,hu,hue,hx⟩) (by omega);omega
  ·rw[hfar (inn u).toNat (by omega)];exact h.up u hu (by omega) x hx hxu
 ·intro k hk;by_cases hkc:k=c
  ·subst hkc;rw[hself];rcases hi.att with h1|⟨x,h1,h2,h3⟩
   ·left;omega
   ·grind
  ·rw[hfar k hkc];rcases h.att k (by omega)with h1|⟨u,hu,hue,x,hxu,h2,h3⟩
   ·exact .inl h1
   ·grind
 ·rw[hi.ac,h.ac];constructor
  ·grind
  ·grind
theorem Long.le {sz F H:Nat->Nat} (hsc:∀a,∀b∈sc a,b<n) (hs:∀v,v<n->∀x∈sc v,inn x<=inn v) (hr:∀v,v<n->0<=inn v) (h:Long sc inn n sz F) (same:∀u v,u<n->v<n->inn u=inn v->H u=H v) (h0:∀u,u<n->sz u<=H u)
 (up:∀u,u<n->∀x∈sc u,inn x≠inn u->sz u+H x<=H u):∀v,v<n->F v<=H v:=by
 have key:∀(k:Nat) (v:Nat),v<n->inn v<(k:Int)->F v<=H v:=by
  intro k
  induction k with
  |zero=>intro v hv hk;have:=hr v hv;omega
  |succ k ih=>
   intro v hv hk;rcases h.att v hv with h1|⟨u,hu,hue,x,hxu,h2,h3⟩
   ·rw[h1];exact h0 v hv
   ·have h4:=hs u hu x hxu;have h5:=ih x (hsc u x hxu) (by omega);have h6:=up u hu x hxu h2;have h7:=same u v hu hv hue;have h8:=h.szs u v hue;omega
 intro v hv;exact key ((inn v).toNat+1) v hv (by have:=hr v hv;omega)
end
abbrev Str:=List UInt8
structure Nd where
 kind:Int
 text:Str
 ord:Bool
 keys:List Nat
 items:List Nat
deriving DecidableEq
def succ (ns:List Nd) (i:Nat):List Nat:=match ns[i]? with
 |some x=>x.keys++x.items
 |none=>[]
def Refs (ns:List Nd):Prop:=∀x∈ns,∀r∈x.keys++x.items,r<ns.length
theorem Refs.succ {ns:List Nd} (h:Refs ns):∀a,∀b∈succ ns a,b<ns.length:=by
 intro a b hb;unfold Gr.succ at hb;split at hb
 ·exact h _ (List.mem_of_getElem? ‹_›) b hb
 ·cases hb
def allKeys (ns:List Nd):List Nat:=ns.flatMap (·.keys)
def refs (ns:List Nd):List Nat:=ns.flatMap (fun x=>x.keys++x.items)
def marks (ns:List Nd) (root:Nat):List Bool:=dvisit (succ ns) ns.length (List.replicate ns.length false) root
def inKeys (ns:List Nd):List Bool:=(allKeys ns).foldl (dvisit (succ ns) ns.length) (List.replicate ns.length false)
def cstep (l:List Nat) (x:Nat):List Nat:=l.set x (l.getD x 0+1)
def counts (ns:List Nd) (root:Nat):List Nat:=(refs ns).foldl cstep (cstep (List.replicate ns.length 0) root)
def sameF (ns:List Nd):Nat->Nat->Nat->Bool
 | 0,_,_=>false
 |f+1,i,j=>match ns[i]?,ns[j]? with
  |some a,some b=>
   if a.kind≠b.kind\/a.text≠b.text\/a.ord≠b.ord\/a.items.length≠b.items.length then false
   else if a.kind=10/\a.ord=false then
    (a.keys.zip a.items).all (fun x=>(b.keys.zip b.items).any (fun y=>sameF ns f x.1 y.1 && sameF ns f x.2 y.2))
   else(List.range a.items.length).all (fun k=>(a.kind != 10 || sameF ns f (a.keys.getD k 0) (b.keys.getD k 0)) && sameF ns f (a.items.getD k 0) (b.items.getD k 0))
  |_,_=>false
def twice1 (ns:List Nd) (f:Nat):List Nat->Bool
 | []=>false
 |x::l=>l.any (fun y=>sameF ns f y x) || twice1 ns f l
def twice (ns:List Nd) (f:Nat):Bool:=ns.any (fun x=>twice1 ns f x.keys)
def nameB (s:Str):Bool:=(s.all fun c=>(97<=c && c<=122) || (65<=c && c<=90) || (48<=c && c<=57) || c==95 || c==45 || c==46 || c==58) && decide (1<=s.length) && decide (s.length<=64)
def formB (sclr:Int->Str->Bool) (x:Nd):Bool:=
 if x.kind=9 then x.text.isEmpty && !x.ord && x.keys.isEmpty
 else if x.kind=10 then x.text.isEmpty && decide (x.keys.length=x.items.length)
 else if x.kind=11 then nameB x.text && !x.ord && x.keys.isEmpty && decide (x.items.length=1)
 else !x.ord && x.keys.isEmpty && x.items.isEmpty && sclr x.kind x.text
def depth (ns:List Nd) (root:Nat):Int×Bool:=
 let t:=tcomp (succ ns) ns.length root;let p:=dall (succ ns) t.cn ns.length t.sizes
 ((p.1.getD (t.cn root).toNat 0:Int)-1,p.2)
def checkN (sclr:Int->Str->Bool) (ns:List Nd) (root:Nat):Nat:=
 if¬(List.range ns.length).all (fun i=>(marks ns root).getD i false && formB sclr (ns.getD i ⟨0,[],false,[],[]⟩))then 3
 else if(List.range ns.length).any (fun i=>(inKeys ns).getD i false && (counts ns root).getD i 0 != 1)then 3
 else if twice ns ns.length then 8
 else if(depth ns root).1>32 then 5 else 0
section
variable {ns:List Nd} {root:Nat}
theorem zih (n x:Nat):mkd (List.replicate n false) x=false:=by
 unfold mkd;simp[List.getD_eq_getElem?_getD,List.getElem?_replicate];split<;>rfl
theorem zfc (n:Nat):unm n (List.replicate n false)<=n:=Nat.le_trans List.countP_le_length (by simp)
theorem zk5 (h:Refs ns) (hr:root<ns.length) (x:Nat):mkd (marks ns root) x=true↔Reach (succ ns) root x:=by
 have h1:=(zbx h.succ ns.length (List.replicate ns.length false) root (by simp) hr (zfc _)).closed (fun x hx=>by rw[zih]at hx;cases hx);rw[marks,h1.1,zih];simp
theorem zbl (h:Refs ns) (x:Nat):mkd (inKeys ns) x=true↔∃k∈allKeys ns,Reach (succ ns) k x:=by
 have hk:∀k∈allKeys ns,k<ns.length:=by
  intro k hk;obtain⟨y,hy,hky⟩:=List.mem_flatMap.1 hk;exact h y hy k (List.mem_append_left _ hky)
 have h1:=(zfb (zbx h.succ ns.length) (allKeys ns) (List.replicate ns.length false) hk (by simp) (zfc _)).closed (fun x hx=>by rw[zih]at hx;cases hx);rw[inKeys,h1.1,zih];simp
end
end Gr
end Go.Proofs.YtoigpackhninoaaGreatDoor

import Derived.Test.YtoigpackhninoaaGreatDoorGrSame
import Derived.Test.YtoigpackhninoaaGreatDoorGrInsP3D
import Derived.Test.YtoigpackhninoaaGreatDoorGrInsR12
import Derived.Test.YtoigpackhninoaaGreatDoorZ24
namespace Go.Proofs.YtoigpackhninoaaGreatDoor
namespace Gr
theorem zo2 (L:List Nat):∀(l:List Nat) (x:Nat),x<l.length->(L.foldl cstep l).getD x 0=l.getD x 0+L.count x:=by
 induction L with
 |nil=>intro l x _;simp
 |cons y L ih=>
  intro l x hx;rw[List.foldl_cons,ih (cstep l y) x (by unfold cstep;simpa using hx)];unfold cstep;by_cases h:y=x
  ·grind
  ·grind
theorem zb5 {ns:List Nd} {root x:Nat} (hx:x<ns.length):(counts ns root).getD x 0=(if x=root then 1 else 0)+(refs ns).count x:=by
 unfold counts;rw[zo2 _ _ _ (by unfold cstep;simpa using hx)]
 congr 1
 unfold cstep;have e:∀y,(List.replicate ns.length 0).getD y 0=0:=fun y=>by simp[List.getD_eq_getElem?_getD,List.getElem?_replicate];split<;>rfl
 by_cases h:x=root
 ·grind
 ·grind
theorem zjo (a b:List Nd):refs (a++b)=refs a++refs b:=by unfold refs;rw[List.flatMap_append]
theorem zsn {ns:List Nd} {a b:Nat} (ha:a<ns.length) (hb:b∈succ ns a):b∈refs ns:=by
 unfold succ at hb;rw[List.getElem?_eq_getElem ha]at hb;exact List.mem_flatMap.2 ⟨_,List.getElem_mem ha,hb⟩
theorem zk1 {ns:List Nd} {a p b:Nat} (hap:p<a) (ha:a<ns.length) (h1:b∈succ ns a) (h2:b∈succ ns p):2<=(refs ns).count b:=by
 have e:refs ns=refs (ns.take a)++refs (ns.drop a):=by rw[<-zjo,List.take_append_drop]
 rw[e,List.count_append];have c1:b∈refs (ns.take a):=by
  unfold succ at h2;rw[List.getElem?_eq_getElem (by omega)]at h2;refine List.mem_flatMap.2 ⟨ns[p],?_,h2⟩;rw[List.mem_take_iff_getElem];exact⟨p,by omega,rfl⟩
 have c2:b∈refs (ns.drop a):=by
  unfold succ at h1;rw[List.getElem?_eq_getElem ha]at h1;refine List.mem_flatMap.2 ⟨ns[a],?_,h1⟩;rw[List.mem_drop_iff_getElem];exact⟨0,by omega,by simp⟩
 have:=List.count_pos_iff.2 c1;have:=List.count_pos_iff.2 c2;omega
section
variable {ns:List Nd} {root:Nat}
theorem Reach.last {sc:Nat->List Nat} {a b:Nat} (h:Reach sc a b):a=b\/∃p,Reach sc a p/\b∈sc p:=by
 induction h with
 |refl=>exact .inl rfl
 |step h1 h2 ih=>
  rcases ih with rfl|⟨p,h3,h4⟩
  ·exact .inr ⟨_,.refl _,h1⟩
  ·exact .inr ⟨p,.step h1 h3,h4⟩
theorem zg5 (hr:Refs ns) (hroot:root<ns.length) (hall:∀v,v<ns.length->Reach (succ ns) root v) (hone:∀x,x<ns.length->mkd (inKeys ns) x=true->(counts ns root).getD x 0=1) {i x:Nat} (hi:i<ns.length) (hk:mkd (inKeys ns) i=true) (hx:x∈succ ns i):¬Reach (succ ns) x i:=by
 intro hc;have hlt:∀a,a<ns.length->∀b,Reach (succ ns) a b->b<ns.length:=fun a ha b h=>h.closed (p:=fun a=>a<ns.length) (fun a _ b hb=>hr.succ a b hb) ha
 have hin:∀j,Reach (succ ns) i j->mkd (inKeys ns) j=true:=fun j hj=>by
  obtain⟨k,h1,h2⟩:=(zam hr i).1 hk;exact(zam hr j).2 ⟨k,h1,h2.trans hj⟩
 have hpre:∀j,Reach (succ ns) i j->Reach (succ ns) j i->∃p,Reach (succ ns) i p/\Reach (succ ns) p i/\j∈succ ns p:=by
  intro j h1 h2;have h3:Reach (succ ns) x j:=hc.trans h1;rcases h3.last with h4|⟨p,h4,h5⟩
  ·subst h4;exact⟨i,.refl _,.refl _,hx⟩
  ·exact⟨p,.step hx h4,.step h5 h2,h5⟩
 have hnot:¬(Reach (succ ns) i i/\Reach (succ ns) i i):=by
  have key:∀v,Reach (succ ns) root v->¬(Reach (succ ns) i v/\Reach (succ ns) v i):=by
   intro v hv;refine hv.closed (p:=fun v=>¬(Reach (succ ns) i v/\Reach (succ ns) v i)) ?_ ?_
   ·rintro a ha b hb ⟨h1,h2⟩;obtain⟨p,h3,h4,h5⟩:=hpre b h1 h2;have hbl:=hr.succ a b hb;have hne:a≠p:=fun e=>ha (e▸⟨h3,h4⟩)
    have hpl:=hlt i hi p h3;have hal:a<ns.length:=by
     unfold succ at hb;rcases Nat.lt_or_ge a ns.length with h|h
     ·exact h
     ·grind
    have h6:=hone b hbl (hin b h1);rw[zb5 hbl]at h6;have:2<=(refs ns).count b:=by
     rcases Nat.lt_or_gt_of_ne hne with h|h
     ·exact zk1 h hpl h5 hb
     ·exact zk1 h hal hb h5
    omega
   ·rintro⟨h1,h2⟩;obtain⟨p,h3,h4,h5⟩:=hpre root h1 h2;have h6:=hone root hroot (hin root h1);rw[zb5 hroot,if_pos rfl]at h6;have:=List.count_pos_iff.2 (zsn (hlt i hi p h3) h5);omega
  exact key i (hall i hi)
 exact hnot ⟨.refl _,.refl _⟩
open Classical in
theorem zvg (hr:Refs ns) (hroot:root<ns.length) (hall:∀v,v<ns.length->Reach (succ ns) root v) (hone:∀x,x<ns.length->mkd (inKeys ns) x=true->(counts ns root).getD x 0=1):∀(f i:Nat),i<ns.length->mkd (inKeys ns) i=true->(List.range ns.length).countP (fun j=>decide (Reach (succ ns) i j))<=f->Tall ns f i:=by
 intro f
 induction f with
 |zero=>
  intro i hi _ h;have:0<(List.range ns.length).countP (fun j=>decide (Reach (succ ns) i j)):=List.countP_pos_iff.2 ⟨i,List.mem_range.2 hi,by simpa using Reach.refl i⟩;omega
 |succ f ih=>
  intro i hi hk h x hx;have hxl:=hr.succ i x hx;have hxk:mkd (inKeys ns) x=true:=by
   obtain⟨k,h1,h2⟩:=(zam hr i).1 hk;exact(zam hr x).2 ⟨k,h1,h2.trans (.one hx)⟩
  refine ih x hxl hxk ?_;have:=zdf (fun j=>decide (Reach (succ ns) x j)) (fun j=>decide (Reach (succ ns) i j)) (List.range ns.length) (fun j _ hj=>by simpa using Reach.step hx (by simpa using hj)) i (List.mem_range.2 hi) (by simpa using zg5 hr hroot hall hone hi hk hx) (by simpa using Reach.refl i);omega
theorem ze8 (hr:Refs ns) (hroot:root<ns.length) (hall:∀v,v<ns.length->Reach (succ ns) root v) (hone:∀x,x<ns.length->mkd (inKeys ns) x=true->(counts ns root).getD x 0=1):∀k∈allKeys ns,k<ns.length/\Tall ns ns.length k:=by
 intro k hk;have hkl:k<ns.length:=by
  obtain⟨y,hy,hky⟩:=List.mem_flatMap.1 hk;exact hr y hy k (List.mem_append_left _ hky)
 exact⟨hkl,zvg hr hroot hall hone _ k hkl ((zam hr k).2 ⟨k,hk,.refl _⟩) (Nat.le_trans List.countP_le_length (by simp))⟩
end
end Gr
namespace Gr
open Classical in
noncomputable def wt (sc:Nat->List Nat) (n v:Nat):Nat:=(List.range n).countP (fun i=>decide (Reach sc v i/\Reach sc i v))
structure LongR (sc:Nat->List Nat) (n:Nat) (F:Nat->Nat):Prop where
 up:∀v u,v<n->u<n->Reach sc v u->Reach sc u v->∀x∈sc u,¬Reach sc x v->wt sc n v+F x<=F v
 att:∀v,v<n->F v=wt sc n v\/∃u,u<n/\Reach sc v u/\Reach sc u v/\∃x∈sc u,¬Reach sc x v/\F v=wt sc n v+F x
theorem zk2 (sc:Nat->List Nat) (n v:Nat) (h:v<n):0<wt sc n v:=by
 unfold wt;exact List.countP_pos_iff.2 ⟨v,List.mem_range.2 h,by simpa using Reach.refl v⟩
section
variable {ns:List Nd} {root:Nat}
theorem ze9 (h:Refs ns) (hr:root<ns.length) (hall:∀v,v<ns.length->Reach (succ ns) root v):
 ∃F:Nat->Nat,LongR (succ ns) ns.length F/\(depth ns root).1=(F root:Int)-1/\((depth ns root).2=true↔∀u,u<ns.length->∀x∈succ ns u,¬Reach (succ ns) x u):=by
 obtain⟨inn,sz,F,h0,h1,h2,h3,h4,h5,h6⟩:=zl0 h hr hall;have hw:∀v,v<ns.length->sz v=wt (succ ns) ns.length v:=by
  intro v hv;rw[h3 v hv];unfold wt;apply List.countP_congr;intro i hi;have:=h2 i v (List.mem_range.1 hi) hv;simp only[beq_iff_eq,decide_eq_true_eq];rw[this];exact And.comm
 have hne:∀v u x,v<ns.length->u<ns.length->Reach (succ ns) v u->Reach (succ ns) u v->x∈succ ns u->(inn x≠inn u↔¬Reach (succ ns) x v):=by
  intro v u x hv hu a b hx;have:=h2 x u (h.succ u x hx) hu;rw[ne_eq,this];constructor
  ·exact fun k e=>k ⟨e.trans a,.one hx⟩
  ·exact fun k e=>k (e.1.trans b)
 refine⟨F,⟨fun v u hv hu a b x hx hn=>?_,fun v hv=>?_⟩,h5,?_⟩
 ·have e:inn u=inn v:=(h2 u v hu hv).2 ⟨b,a⟩;have:=h4.up u hu x hx ((hne v u x hv hu a b hx).2 hn);rw[h4.same u v e,h4.szs u v e,hw v hv]at this;exact this
 ·rcases h4.att v hv with a|⟨u,hu,e,x,hx,hn,he⟩
  ·exact .inl (a.trans (hw v hv))
  ·grind
 ·grind
theorem zc8 {u:Nat} (hu:u<ns.length):succ ns u=ns[u].keys++ns[u].items:=by unfold succ;rw[List.getElem?_eq_getElem hu]
theorem zmj (h:Refs ns) (hr:root<ns.length) (hall:∀v,v<ns.length->Reach (succ ns) root v) (hone:∀x,x<ns.length->mkd (inKeys ns) x=true->(counts ns root).getD x 0=1):
 (∀u,u<ns.length->∀x∈succ ns u,¬Reach (succ ns) x u)↔∀(u:Nat) (hu:u<ns.length),∀x∈ns[u].items,¬Reach (succ ns) x u:=by
 constructor
 ·intro k u hu x hx;exact k u hu x (by rw[zc8 hu];exact List.mem_append_right _ hx)
 ·intro k u hu x hx;have hx':=hx;rw[zc8 hu]at hx';rcases List.mem_append.1 hx' with hk|hi
  ·intro hc;have hxl:=h.succ u x hx;have hin:mkd (inKeys ns) x=true:=(zam h x).2 ⟨x,List.mem_flatMap.2 ⟨_,List.getElem_mem hu,hk⟩,.refl _⟩;cases hc with
   |refl=>exact zg5 h hr hall hone hxl hin hx (.refl _)
   |step h1 h2=>exact zg5 h hr hall hone hxl hin h1 (h2.trans (.one hx))
  ·exact k u hu x hi
end
end Gr
namespace Gr
def ltS:Str->Str->Bool
 |_,[]=>false
 | [],_::_=>true
 |a::l,b::m=>decide (a.toNat<b.toNat) || (a==b && ltS l m)
def insR (t:Str):List Str->List Str
 | []=>[t]
 |y::r=>if ltS t y=true then y::insR t r else t::y::r
def insL (l:List Str) (t:Str):List Str:=(insR t l.reverse).reverse
def sortS (l:List Str):List Str:=l.foldl insL []
def printF (ns:List Nd):Nat->Nat->Str
 | 0,_=>[]
 |f+1,i=>match ns[i]? with
  |none=>[]
  |some x=>
   let es:=(List.range x.items.length).map (fun k=>(if x.kind=10 then printF ns f (x.keys.getD k 0)else[])++printF ns f (x.items.getD k 0))
   UInt8.ofNat (97+x.kind.toNat)::(Lib.decDigits x.text.length++58::(x.text++(Lib.decDigits x.items.length++40::((if x.kind=10/\x.ord=false then sortS es else es).flatten++41::(if x.ord=true then[33]else[])))))
theorem zh1 (t:Str) (l:List Str):(insR t l).Perm (t::l):=by
 induction l with
 |nil=>exact .refl _
 |cons y r ih=>
  unfold insR;split
  ·grind
  ·exact .refl _
theorem zom (l:List Str) (t:Str):(insL l t).Perm (t::l):=by
 unfold insL;exact(List.reverse_perm _).trans ((zh1 t _).trans ((List.reverse_perm l).cons t))
theorem zh2 (l:List Str):∀a,(l.foldl insL a).Perm (a++l):=by
 induction l with
 |nil=>intro a;simp
 |cons t l ih=>
  intro a;rw[List.foldl_cons];exact(ih _).trans (((zom a t).append_right l).trans (by simpa using(List.perm_middle (a:=t) (l₁:=a) (l₂:=l)).symm))
theorem za6 (l:List Str):(sortS l).Perm l:=by unfold sortS;simpa using zh2 l []
theorem zl6 (a:Str):ltS a a=false:=by
 induction a with
 |nil=>rfl
 |cons a l ih=>simp[ltS,ih]
theorem zh3 {a b c:Str} (h1:ltS a b=true) (h2:ltS b c=true):ltS a c=true:=by
 induction a generalizing b c with
 |nil=>cases b<;>cases c<;>simp_all [ltS]
 |cons x a ih=>
  cases b with
  |nil=>simp[ltS]at h1
  |cons y b=>
   cases c with
   |nil=>simp[ltS]at h2
   |cons z c=>
    simp only[ltS,Bool.or_eq_true,decide_eq_true_eq,Bool.and_eq_true,beq_iff_eq]at h1 h2 ⊢;rcases h1 with h1|⟨rfl,h1⟩
    ·grind
    ·grind
theorem zh4 {a b:Str} (h1:ltS a b=false) (h2:ltS b a=false):a=b:=by
 induction a generalizing b with
 |nil=>cases b with
  |nil=>rfl
  |cons=>simp[ltS]at h1
 |cons x a ih=>
  cases b with
  |nil=>simp[ltS]at h2
  |cons y b=>
   simp only[ltS,Bool.or_eq_false_iff,decide_eq_false_iff_not,Bool.and_eq_false_iff]at h1 h2;have:x=y:=by apply UInt8.toNat_inj.1;omega
   subst this;have a1:ltS a b=false:=by
    rcases h1.2 with h|h
    ·simp at h
    ·exact h
   have a2:ltS b a=false:=by
    rcases h2.2 with h|h
    ·simp at h
    ·exact h
   rw[ih a1 a2]
def Desc (l:List Str):Prop:=l.Pairwise (fun a b=>ltS a b=false)
theorem zon (t:Str) (l:List Str) (h:Desc l):Desc (insR t l):=by
 induction l with
 |nil=>simp[insR,Desc]
 |cons y r ih=>
  unfold Desc at h ih ⊢;rw[List.pairwise_cons]at h;unfold insR;split
  ·rename_i hlt;rw[List.pairwise_cons];refine⟨fun z hz=>?_,ih h.2⟩;have:=(zh1 t r).mem_iff.1 hz;rcases List.mem_cons.1 this with rfl|h3
   ·cases hc:ltS y z with
    |false=>rfl
    |true=>have:=zh3 hc hlt;rw[zl6]at this;cases this
   ·exact h.1 z h3
  ·rename_i hlt;have hf:ltS t y=false:=by simpa using hlt
   rw[List.pairwise_cons,List.pairwise_cons];refine⟨fun z hz=>?_,h⟩;rcases List.mem_cons.1 hz with rfl|h3
   ·exact hf
   ·cases hc:ltS t z with
    |false=>rfl
    |true=>
     have h4:=h.1 z h3;cases hd:ltS z y with
     |true=>have:=zh3 hc hd;rw[hf]at this;cases this
     |false=>have:=zh4 h4 hd;subst this;rw[hf]at hc;cases hc
theorem zu8 {l m:List Str} (hl:Desc l) (hm:Desc m) (hp:l.Perm m):l=m:=
 List.Perm.eq_of_pairwise (le:=fun a b=>ltS a b=false) (fun _ _ _ _ h1 h2=>zh4 h1 h2) hl hm hp
theorem zh5 (l:List Str):∀a,Desc a.reverse->Desc (l.foldl insL a).reverse:=by
 induction l with
 |nil=>intro a h;exact h
 |cons t l ih=>
  intro a h;rw[List.foldl_cons];apply ih;unfold insL;rw[List.reverse_reverse];exact zon t _ h
theorem zsb {l m:List Str} (h:l.Perm m):sortS l=sortS m:=by
 have hl:=zh5 l [] (by simp[Desc]);have hm:=zh5 m [] (by simp[Desc]);have hp:((sortS l).reverse).Perm ((sortS m).reverse):=(List.reverse_perm _).trans (((za6 l).trans (h.trans (za6 m).symm)).trans (List.reverse_perm _).symm);have:=congrArg List.reverse (zu8 hl hm hp);simpa[sortS]using this
theorem zoo {l m:List Str} (h:sortS l=sortS m):l.Perm m:=(za6 l).symm.trans (h▸za6 m)
def ents (ns:List Nd) (f:Nat) (x:Nd):List Str:=(List.range x.items.length).map (fun k=>(if x.kind=10 then printF ns f (x.keys.getD k 0)else[])++printF ns f (x.items.getD k 0))
def entS (ns:List Nd) (f:Nat) (x:Nd):List Str:=if x.kind=10/\x.ord=false then sortS (ents ns f x)else ents ns f x
theorem zai {ns:List Nd} {f i:Nat} {x:Nd} (h:ns[i]? =some x):printF ns (f+1) i=
 UInt8.ofNat (97+x.kind.toNat)::(Lib.decDigits x.text.length++58::(x.text++(Lib.decDigits x.items.length++40::((entS ns f x).flatten++41::(if x.ord=true then[33]else[]))))):=by
 unfold printF entS ents;rw[h]
theorem zh6 {a b:Nat} {r r':Str} {c:UInt8} (hc:dig c=false) (h:Lib.decDigits a++c::r=Lib.decDigits b++c::r'):a=b/\r=r':=by
 have ha:=zf2 (p:=dig) (Lib.decDigits a) c r (fun x hx=>List.all_eq_true.1 (zak a) x hx) hc;have hb:=zf2 (p:=dig) (Lib.decDigits b) c r' (fun x hx=>List.all_eq_true.1 (zak b) x hx) hc;rw[h]at ha;have e1:Lib.decDigits a=Lib.decDigits b:=ha.1.symm.trans hb.1;have e2:c::r=c::r':=ha.2.symm.trans hb.2;refine⟨?_,by injection e2⟩;have:=congrArg val e1;rwa[zal,zal]at this
def NodesOk (ns:List Nd):Prop:=∀x∈ns,0<=x.kind/\x.kind<=11/\(x.kind=10->x.keys.length=x.items.length)
def Tall' (ns:List Nd):Nat->Nat->Prop
 | 0,_=>False
 |f+1,i=>∀x∈succ ns i,Tall' ns f x
structure TOk (ns:List Nd) (f i:Nat):Prop where
 lt:i<ns.length
 tall:Tall' ns f i
def no33 (r:Str):Prop:=r.head?≠some 33
def ElemOk (ns:List Nd) (f:Nat) (m:Bool) (e:Str):Prop:=if m=true then∃a b,TOk ns f a/\TOk ns f b/\e=printF ns f a++printF ns f b else∃b,TOk ns f b/\e=printF ns f b
section
variable {ns:List Nd}
theorem za0 (hok:NodesOk ns) {f i:Nat} (h:TOk ns f i) (r:Str):no33 (printF ns f i++r)/\(printF ns f i++r)≠[]:=by
 obtain⟨hlt,ht⟩:=h;cases f with
 |zero=>exact absurd ht id
 |succ f=>
  rw[zai (List.getElem?_eq_getElem hlt)];refine⟨?_,by simp⟩;unfold no33;have hk:=hok _ (List.getElem_mem hlt);intro h;simp only[List.cons_append,List.head?_cons,Option.some.injEq]at h;have:=congrArg UInt8.toNat h;rw[UInt8.toNat_ofNat',Nat.mod_eq_of_lt (by omega)]at this;have h33:(33:UInt8).toNat=33:=rfl;omega
theorem zh7 (hok:NodesOk ns) {f:Nat} {m:Bool} {e:Str} (h:ElemOk ns f m e) (r:Str):no33 (e++r):=by
 unfold ElemOk at h;split at h
 ·obtain⟨a,b,ha,_,rfl⟩:=h;rw[List.append_assoc];exact(za0 hok ha _).1
 ·obtain⟨b,hb,rfl⟩:=h;exact(za0 hok hb _).1
theorem zh8 {f:Nat} {m:Bool} (hh:∀e,ElemOk ns f m e->∀r,no33 (e++r)) (L:List Str) (hL:∀e∈L,ElemOk ns f m e) (q:Str):no33 (L.flatten++41::q):=by
 cases L with
 |nil=>simp[no33]
 |cons e L=>
  grind
theorem zop (hok:NodesOk ns) (hr:Refs ns) {f i:Nat} (hi:i<ns.length) (ht:Tall' ns (f+1) i):∀e∈entS ns f ns[i],ElemOk ns f (decide (ns[i].kind=10)) e:=by
 have hsub:∀e∈entS ns f ns[i],e∈ents ns f ns[i]:=by
  intro e he;unfold entS at he;split at he
  ·exact(za6 _).mem_iff.1 he
  ·exact he
 intro e he;have he2:=hsub e he;unfold ents at he2;obtain⟨k,hk,rfl⟩:=List.mem_map.1 he2;have hkl:=List.mem_range.1 hk;have hx:=hok _ (List.getElem_mem hi);have hs:succ ns i=ns[i].keys++ns[i].items:=by unfold succ;rw[List.getElem?_eq_getElem hi]
 have hit:ns[i].items.getD k 0∈succ ns i:=by
  grind
 have ok2:∀x∈succ ns i,TOk ns f x:=fun x hx=>⟨hr.succ i x hx,ht x hx⟩
 unfold ElemOk;by_cases h10:ns[i].kind=10
 ·grind
 ·grind
def SplitAt (ns:List Nd) (f:Nat):Prop:=∀(i g j:Nat) (r r':Str),TOk ns f i->TOk ns g j->no33 r->no33 r'->printF ns f i++r=printF ns g j++r'->printF ns f i=printF ns g j/\r=r'
theorem zl7 (hok:NodesOk ns) {f g:Nat} {m:Bool} (ih:SplitAt ns f) {e e' r r':Str} (h:ElemOk ns f m e) (h':ElemOk ns g m e') (hr1:no33 r) (hr2:no33 r') (he:e++r=e'++r'):e=e'/\r=r':=by
 unfold ElemOk at h h';split at h
 ·rename_i hm;rw[if_pos hm]at h';obtain⟨a,b,ha,hb,rfl⟩:=h;obtain⟨a',b',ha',hb',rfl⟩:=h';rw[List.append_assoc,List.append_assoc]at he;obtain⟨e1,e2⟩:=ih a g a' _ _ ha ha' (za0 hok hb _).1 (za0 hok hb' _).1 he;obtain⟨e3,e4⟩:=ih b g b' _ _ hb hb' hr1 hr2 e2;exact⟨by rw[e1,e3],e4⟩
 ·rename_i hm;rw[if_neg hm]at h';obtain⟨b,hb,rfl⟩:=h;obtain⟨b',hb',rfl⟩:=h';exact ih b g b' _ _ hb hb' hr1 hr2 he
theorem zl8 (hok:NodesOk ns) {f g:Nat} {m:Bool} (ih:SplitAt ns f):∀(L M:List Str) (q q':Str),L.length=M.length->(∀e∈L,ElemOk ns f m e)->(∀e∈M,ElemOk ns g m e)->L.flatten++41::q=M.flatten++41::q'->L=M/\q=q':=by
 intro L
 induction L with
 |nil=>
  grind
 |cons e L ihL=>
  intro M q q' hl hL hM he;cases M with
  |nil=>simp at hl
  |cons e' M=>
   rw[List.flatten_cons,List.flatten_cons,List.append_assoc,List.append_assoc]at he;have hL2:=fun x hx=>hL x (.tail _ hx)
   have hM2:=fun x hx=>hM x (.tail _ hx)
   obtain⟨e1,e2⟩:=zl7 hok ih (hL e (.head _)) (hM e' (.head _)) (zh8 (fun e he r=>zh7 hok he r) L hL2 q) (zh8 (fun e he r=>zh7 hok he r) M hM2 q') he;obtain⟨e3,e4⟩:=ihL M q q' (by simpa using hl) hL2 hM2 e2;exact⟨by rw[e1,e3],e4⟩
theorem zky (f:Nat) (x:Nd):(entS ns f x).length=x.items.length:=by
 unfold entS;split
 ·rw[(za6 _).length_eq];simp[ents]
 ·simp[ents]
theorem zoq {a b:Bool} {r r':Str} (h1:no33 r) (h2:no33 r') (h:(if a=true then[33]else[])++r=(if b=true then[33]else[])++r'):a=b/\r=r':=by
 cases a<;>cases b<;>simp at h ⊢
 ·exact h
 ·rw[h]at h1;simp[no33]at h1
 ·rw[<-h]at h2;simp[no33]at h2
 ·exact h
theorem zex (hok:NodesOk ns) (hr:Refs ns) {f g i j:Nat} (ih:SplitAt ns f) (hi:TOk ns (f+1) i) (hj:TOk ns (g+1) j) {r r':Str} (h1:no33 r) (h2:no33 r') (h:printF ns (f+1) i++r=printF ns (g+1) j++r'):
 (ns[i]'hi.lt).kind=(ns[j]'hj.lt).kind/\(ns[i]'hi.lt).text=(ns[j]'hj.lt).text/\(ns[i]'hi.lt).ord=(ns[j]'hj.lt).ord/\(ns[i]'hi.lt).items.length=(ns[j]'hj.lt).items.length/\entS ns f (ns[i]'hi.lt)=entS ns g (ns[j]'hj.lt)/\r=r':=by
 have a1:=zop hok hr hi.lt hi.tall;have a2:=zop hok hr hj.lt hj.tall;rw[zai (List.getElem?_eq_getElem hi.lt),zai (List.getElem?_eq_getElem hj.lt)]at h;have k1:=hok _ (List.getElem_mem hi.lt);have k2:=hok _ (List.getElem_mem hj.lt);have l1:=zky (ns:=ns) f (ns[i]'hi.lt);have l2:=zky (ns:=ns) g (ns[j]'hj.lt);generalize ns[i]'hi.lt=x at *;generalize ns[j]'hj.lt=y at *;simp only[List.cons_append,List.append_assoc]at h;injection h with h3 h4
 have h5:=congrArg UInt8.toNat h3;rw[UInt8.toNat_ofNat',UInt8.toNat_ofNat',Nat.mod_eq_of_lt (by omega),Nat.mod_eq_of_lt (by omega)]at h5;have hkind:x.kind=y.kind:=by omega
 obtain⟨h6,h7⟩:=zh6 (by decide) h4;obtain⟨h8,h9⟩:=List.append_inj h7 h6;obtain⟨h10,h11⟩:=zh6 (by decide) h9;rw[<-hkind]at a2;obtain⟨h12,h13⟩:=zl8 hok ih _ _ _ _ (by rw[l1,l2,h10]) a1 a2 h11;obtain⟨h14,h15⟩:=zoq h1 h2 h13;exact⟨hkind,h8,h14,h10,h12,h15⟩
theorem zc6 (hok:NodesOk ns) (hr:Refs ns):∀f,SplitAt ns f:=by
 intro f
 induction f with
 |zero=>intro i g j r r' hi;exact absurd hi.tall id
 |succ f ih=>
  intro i g j r r' hi hj h1 h2 h;cases g with
  |zero=>exact absurd hj.tall id
  |succ g=>
   obtain⟨a,b,c,d,e,e2⟩:=zex hok hr ih hi hj h1 h2 h;refine⟨?_,e2⟩;rw[zai (List.getElem?_eq_getElem hi.lt),zai (List.getElem?_eq_getElem hj.lt),a,b,c,d,e]
theorem zgw (hok:NodesOk ns) (hr:Refs ns):∀(f i j:Nat),TOk ns f i->TOk ns f j->printF ns f i=printF ns f j->sameF ns f i j=true:=by
 intro f
 induction f with
 |zero=>intro i j hi;exact absurd hi.tall id
 |succ f ih=>
  intro i j hi hj h;obtain⟨a,b,c,d,e,_⟩:=zex hok hr (zc6 hok hr f) hi hj (r:=[]) (r':=[]) (by simp[no33]) (by simp[no33]) (by rw[h]);have ok2:∀x∈succ ns i,TOk ns f x:=fun x hx=>⟨hr.succ i x hx,hi.tall x hx⟩
  have ok3:∀x∈succ ns j,TOk ns f x:=fun x hx=>⟨hr.succ j x hx,hj.tall x hx⟩
  have s1:succ ns i=(ns[i]'hi.lt).keys++(ns[i]'hi.lt).items:=by unfold succ;rw[List.getElem?_eq_getElem hi.lt]
  have s2:succ ns j=(ns[j]'hj.lt).keys++(ns[j]'hj.lt).items:=by unfold succ;rw[List.getElem?_eq_getElem hj.lt]
  rw[s1]at ok2;rw[s2]at ok3;have k1:=hok _ (List.getElem_mem hi.lt);have k2:=hok _ (List.getElem_mem hj.lt);unfold sameF;rw[List.getElem?_eq_getElem hi.lt,List.getElem?_eq_getElem hj.lt];generalize ns[i]'hi.lt=x at *;generalize ns[j]'hj.lt=y at *;simp only;rw[if_neg (by rintro(h|h|h|h)<;>contradiction)];have gi:∀k,k<x.items.length->TOk ns f (x.items.getD k 0):=fun k hk=>ok2 _ (List.mem_append_right _ (by rw[List.getD_eq_getElem?_getD,List.getElem?_eq_getElem hk];exact List.getElem_mem hk))
  have gj:∀k,k<y.items.length->TOk ns f (y.items.getD k 0):=fun k hk=>ok3 _ (List.mem_append_right _ (by rw[List.getD_eq_getElem?_getD,List.getElem?_eq_getElem hk];exact List.getElem_mem hk))
  have gki:x.kind=10->∀k,k<x.items.length->TOk ns f (x.keys.getD k 0):=fun h10 k hk=>ok2 _ (List.mem_append_left _ (by rw[List.getD_eq_getElem?_getD,List.getElem?_eq_getElem (by rw[k1.2.2 h10];exact hk)];exact List.getElem_mem _))
  have gkj:y.kind=10->∀k,k<y.items.length->TOk ns f (y.keys.getD k 0):=fun h10 k hk=>ok3 _ (List.mem_append_left _ (by rw[List.getD_eq_getElem?_getD,List.getElem?_eq_getElem (by rw[k2.2.2 h10];exact hk)];exact List.getElem_mem _))
  have two:∀{a b a' b':Nat},TOk ns f a->TOk ns f b->TOk ns f a'->TOk ns f b'->printF ns f a++printF ns f b=printF ns f a'++printF ns f b'->sameF ns f a a'=true/\sameF ns f b b'=true:=by
   intro a b a' b' ha hb ha' hb' he;obtain⟨e1,e2⟩:=zc6 hok hr f a f a' _ _ ha ha' (by simpa using(za0 hok hb []).1) (by simpa using(za0 hok hb' []).1) he;exact⟨ih a a' ha ha' e1,ih b b' hb hb' e2⟩
  by_cases hm:x.kind=10/\x.ord=false
  ·rw[if_pos hm];unfold entS at e;rw[if_pos hm,if_pos ⟨a▸hm.1,c▸hm.2⟩]at e;have hp:=zoo e;rw[List.all_eq_true];intro p hp2;obtain⟨k,hk,hpk⟩:=List.mem_iff_getElem.1 hp2;have hkl:k<x.items.length:=by rw[List.length_zip]at hk;omega
   have hkk:k<x.keys.length:=by rw[List.length_zip]at hk;omega
   rw[List.getElem_zip]at hpk;subst hpk;have hmem:(printF ns f (x.keys.getD k 0)++printF ns f (x.items.getD k 0))∈ents ns f y:=by
    refine hp.mem_iff.1 ?_;unfold ents;exact List.mem_map.2 ⟨k,List.mem_range.2 hkl,by rw[if_pos hm.1]⟩
   unfold ents at hmem;obtain⟨l,hl,he⟩:=List.mem_map.1 hmem;have hll:=List.mem_range.1 hl;rw[if_pos (a▸hm.1)]at he;obtain⟨e1,e2⟩:=two (gki hm.1 k hkl) (gi k hkl) (gkj (a▸hm.1) l hll) (gj l hll) he.symm;have hlk:l<y.keys.length:=by rw[k2.2.2 (a▸hm.1)];exact hll
   rw[List.any_eq_true];refine⟨(y.keys[l],y.items[l]),List.mem_iff_getElem.2 ⟨l,by rw[List.length_zip];omega,by rw[List.getElem_zip]⟩,?_⟩;rw[List.getD_eq_getElem?_getD,List.getElem?_eq_getElem hkk,List.getD_eq_getElem?_getD,List.getElem?_eq_getElem hlk]at e1;rw[List.getD_eq_getElem?_getD,List.getElem?_eq_getElem hkl,List.getD_eq_getElem?_getD,List.getElem?_eq_getElem hll]at e2;simp only[Option.getD_some]at e1 e2;rw[e1,e2];rfl
  ·rw[if_neg hm];unfold entS at e;rw[if_neg hm,if_neg (by rw[<-a,<-c];exact hm)]at e;unfold ents at e;rw[List.all_eq_true];intro k hk;have hkl:=List.mem_range.1 hk;have he:((List.range x.items.length).map (fun k=>(if x.kind=10 then printF ns f (x.keys.getD k 0)else[])++printF ns f (x.items.getD k 0)))[k]? =((List.range y.items.length).map (fun k=>(if y.kind=10 then printF ns f (y.keys.getD k 0)else[])++printF ns f (y.items.getD k 0)))[k]? :=by rw[e]
   rw[List.getElem?_map,List.getElem?_map,List.getElem?_range hkl,List.getElem?_range (d▸hkl)]at he;simp only[Option.map_some,Option.some.injEq]at he;by_cases h10:x.kind=10
   ·grind
   ·grind
end
end Gr
open Gr
open Go.RowKit
def moF (x:Gr.Mo):Nat->Nat:=fun j=>match j with
 | 0=>x.y
 | 1=>x.m
 | 2=>x.d
 | 3=>x.h
 | 4=>x.mi
 | 5=>x.c
 | 6=>x.zh
 |_=>x.zm
def moSh (x:Gr.Mo):Nat:=(if x.date=true then 1 else 0)+(if x.time=true then 2 else 0)
def moC (x:Gr.Mo):Array Value:=mC (moSh x) (moF x) x.nanos x.z.toNat
def rdT (s:Gr.Str):Option (Array Value):=(Gr.rd s).map moC
theorem zhk {sh nn z:Nat} {f g:Nat->Nat} (h:∀j,j<8->f j=g j):mC sh f nn z=mC sh g nn z:=by
 simp[mC,h 0 (by omega),h 1 (by omega),h 2 (by omega),h 3 (by omega),h 4 (by omega),h 5 (by omega),h 6 (by omega),h 7 (by omega)]
theorem lt8 {P:Nat->Prop} (h:P 0/\P 1/\P 2/\P 3/\P 4/\P 5/\P 6/\P 7):∀j,j<8->P j:=by
 grind
theorem ziv {s:Gr.Str} (h:∀h2:2<s.length,(s[2]'h2).toNat=58):dateAt s=none:=by
 unfold dateAt;have:numAt s 0 4=none:=by
  rcases Nat.lt_or_ge s.length 4 with hl|hl
  ·exact zda s 0 4 (by omega)
  ·exact zdo s 0 4 2 (by omega) (by omega) (by rw[(zd2 _ 58 (h (by omega))).1];decide)
 rw[this]
theorem zhl {s:Gr.Str} (hl:2<s.length) (h:(s[2]'hl).toNat≠58):clockAt s 0=none:=by
 unfold clockAt;split
 ·rw[if_neg];rw[zbt (p:=0+2) hl rfl];simp;intro e;exact absurd e h
 ·rfl
theorem zv8 {s:Gr.Str} (hd:dateAt s=none):ClockT s 0 (fun _=>0) 0 (rdT s) where
 no h:=by unfold rdT Gr.rd;rw[hd];simp only;rw[h];rfl
 yes k f' h h3 h4 h5 hf:=by
  unfold rdT Gr.rd finO;rw[hd];simp only;rw[h];simp only;by_cases hs:k.stop=s.length
  ·rw[if_pos hs,if_pos hs];show some _=some _
   congr 1
   exact zhk (lt8 ⟨(hf 0 (by omega)).symm,(hf 1 (by omega)).symm,(hf 2 (by omega)).symm,h3.symm,h4.symm,h5.symm,(hf 6 (by omega)).symm,(hf 7 (by omega)).symm⟩)
  ·grind
theorem zv9 {s:Gr.Str} {g:Nat->Nat} (hd:dateAt s=some (g 0,g 1,g 2)) (h10:s.length≠10) (hsep:(isAt s 10 84 || isAt s 10 32)=true) (h6:g 6=0) (h7:g 7=0):ClockT s 1 g 11 (rdT s) where
 no h:=by unfold rdT Gr.rd;rw[hd];simp only;rw[if_neg h10,if_pos hsep,h];rfl
 yes k f' h h3 h4 h5 hf:=by
  unfold rdT Gr.rd finO;rw[hd];simp only;rw[if_neg h10,if_pos hsep,h];simp only;have hle:=zlk (kh:=k.h) (km:=k.m) (kc:=k.s) (kf:=k.nanos) (ks:=k.stop) h;by_cases hs:k.stop=s.length
  ·rw[if_pos hs,if_pos hs];show some _=some _
   congr 1
   exact zhk (lt8 ⟨(hf 0 (by omega)).symm,(hf 1 (by omega)).symm,(hf 2 (by omega)).symm,h3.symm,h4.symm,h5.symm,((hf 6 (by omega)).trans h6).symm,((hf 7 (by omega)).trans h7).symm⟩)
  ·rw[if_neg hs,if_neg hs,if_pos ⟨by trivial,by omega⟩];cases hz:zoneAt s k.stop with
   |none=>rfl
   |some z=>
    simp only;by_cases hzs:z.stop=s.length
    ·rw[if_pos hzs,if_pos hzs];show some _=some _
     congr 1
     exact zhk (lt8 ⟨(hf 0 (by omega)).symm,(hf 1 (by omega)).symm,(hf 2 (by omega)).symm,h3.symm,h4.symm,h5.symm,rfl,rfl⟩)
    ·rw[if_neg hzs,if_neg hzs];rfl
open _root_.Go.Proofs.Tryz
set_option maxRecDepth 100000
set_option maxHeartbeats 16000000
theorem ziy (date time zone:Bool) (y m d h mi c nanos off:Int) (late:Bool) (h0:0<=y) (h1:y<=9999) (h2:1<=m) (h3:m<=12) (h4:0<=d) (h5:d<=1000) (h6:0<=h) (h7:h<=1000) (h8:0<=mi) (h9:mi<=1000) (h10:0<=c) (h11:c<=1000) (h12:-1000000<=off) (h13:off<=1000000) (w:World):
 Calls prog 132 #[.agg #[.bool date,.bool time,.bool zone,.int .i64 y,.int .i64 m,.int .i64 d,.int .i64 h,.int .i64 mi,.int .i64 c,.int .i64 nanos,.int .i64 off,.bool late]] w fun e w'=>e=.returned (.int .i64 (86400*Cal.num y m d+3600*h+60*mi+c-off))/\Below w.heap.size w w':=by
 have HD:=Lib.hid (fun W=>zir y m d h0 (by omega) h2 h3 h4 h5 W);have hb1:=Cal.zxi y h0 (by omega);have hb2:=Cal.zxm y m;have hn0:-800000<=Cal.num y m d:=by unfold Cal.num;omega
 have hn1:Cal.num y m d<=4000000:=by unfold Cal.num;omega
 obtain⟨q,hq⟩:=ex (Cal.num y m d)
 rw[hq]at HD hn0 hn1 ⊢;clear hb1 hb2 hq;go_enter func132,ntmps132;go_upto_region 1 with fail;obtain⟨gb,hgb⟩:=ex w.heap.size
 obtain⟨w0,hw0⟩:∃w0,w0=w.alloc (.cells #[.bool date,.bool time,.bool zone,.int .i64 y,.int .i64 m,.int .i64 d,.int .i64 h,.int .i64 mi,.int .i64 c,.int .i64 nanos,.int .i64 off,.bool late] 111):=⟨_,rfl⟩
 have HB0:Hid (Blk w0 gb 111 (T12 date time zone y m d h mi c nanos off late)/\Below gb w w0):=Lib.hid (by rw[hw0,<-hgb];exact⟨Blk.new _ _ _,(Below.refl _ _).alloc (Nat.le_refl _) _⟩);have HGB:=Lib.hid hgb;(try rw[<-hw0]);(try rw[hgb]);clear hw0 hgb;have p3:∀W:WB w0.heap.size w0,W.w.cell? ⟨gb,3,none⟩=some (.int .i64 y):=fun W=>(W.h.cell (p:=⟨gb,3,none⟩) HB0.out.1.lt).trans (HB0.out.1.cell 3)
 have p4:∀W:WB w0.heap.size w0,W.w.cell? ⟨gb,4,none⟩=some (.int .i64 m):=fun W=>(W.h.cell (p:=⟨gb,4,none⟩) HB0.out.1.lt).trans (HB0.out.1.cell 4)
 have p5:∀W:WB w0.heap.size w0,W.w.cell? ⟨gb,5,none⟩=some (.int .i64 d):=fun W=>(W.h.cell (p:=⟨gb,5,none⟩) HB0.out.1.lt).trans (HB0.out.1.cell 5)
 have p6:∀W:WB w0.heap.size w0,W.w.cell? ⟨gb,6,none⟩=some (.int .i64 h):=fun W=>(W.h.cell (p:=⟨gb,6,none⟩) HB0.out.1.lt).trans (HB0.out.1.cell 6)
 have p7:∀W:WB w0.heap.size w0,W.w.cell? ⟨gb,7,none⟩=some (.int .i64 mi):=fun W=>(W.h.cell (p:=⟨gb,7,none⟩) HB0.out.1.lt).trans (HB0.out.1.cell 7)
 have p8:∀W:WB w0.heap.size w0,W.w.cell? ⟨gb,8,none⟩=some (.int .i64 c):=fun W=>(W.h.cell (p:=⟨gb,8,none⟩) HB0.out.1.lt).trans (HB0.out.1.cell 8)
 have p10:∀W:WB w0.heap.size w0,W.w.cell? ⟨gb,10,none⟩=some (.int .i64 off):=fun W=>(W.h.cell (p:=⟨gb,10,none⟩) HB0.out.1.lt).trans (HB0.out.1.cell 10)
 have x1:IntKind.i64.wrap (86400*q)=86400*q:=IntWalk.i64_in _ (by omega);have x2:IntKind.i64.wrap (3600*h)=3600*h:=IntWalk.i64_in _ (by omega);have x3:IntKind.i64.wrap (86400*q+3600*h)=86400*q+3600*h:=IntWalk.i64_in _ (by omega);have x4:IntKind.i64.wrap (60*mi)=60*mi:=IntWalk.i64_in _ (by omega);have x5:IntKind.i64.wrap (86400*q+3600*h+60*mi)=86400*q+3600*h+60*mi:=IntWalk.i64_in _ (by omega);have x6:IntKind.i64.wrap (86400*q+3600*h+60*mi+c)=86400*q+3600*h+60*mi+c:=IntWalk.i64_in _ (by omega);have x7:IntKind.i64.wrap (86400*q+3600*h+60*mi+c-off)=86400*q+3600*h+60*mi+c-off:=IntWalk.i64_in _ (by omega);refine zaa w0.heap.size w0 (by kernel_rfl) (by kernel_rfl) (Below.refl _ _) ?_
 iterate 23 (try go_big_quiet_step ((with_reducible refine Calls.grow ((HD.out _).mono (fun _ _ ⟨e1,e2⟩=>⟨e1,e2▸WB.h _⟩)))))
 refine wpQuiet_nil ?_;rintro _ ⟨wz,rfl⟩;clear p3 p4 p5 p6 p7 p8 p10;go_wp2;go_ret;rw[HGB.out];exact⟨rfl,HB0.out.2.trans (wz.h.mono (Nat.le_of_lt HB0.out.1.lt))⟩
structure MoOk (x:Gr.Mo):Prop where
 y:x.y<=9999
 m:x.m<=99
 d:x.d<=99
 h:x.h<=99
 mi:x.mi<=99
 c:x.c<=99
 nanos:x.nanos<=999999999
 zh:x.zh<=99
 zm:x.zm<=99
 sh:(x.date=true/\x.time=true)\/(x.date=true/\x.time=false/\x.z=0)\/(x.date=false/\x.time=true/\x.z=0)
 z0:x.z=0->x.zh=0/\x.zm=0
theorem numAt2 {s:Gr.Str} {a v:Nat} (h:numAt s a 2=some v):v<=99:=by
 have:=(zcx h (by omega)).2.1;omega
theorem numAt4 {s:Gr.Str} {a v:Nat} (h:numAt s a 4=some v):v<=9999:=by
 have:=(zcx h (by omega)).2.1;omega
theorem zln {s:Gr.Str} {a:Nat} {k:Gr.Ck} (h:clockAt s a=some k):k.h<=99/\k.m<=99/\k.s<=99/\k.nanos<=999999999:=by
 unfold clockAt at h;split at h
 ·rename_i h1 h2 h3;have b1:=numAt2 h1;have b2:=numAt2 h2;have b3:=numAt2 h3;split at h
  ·split at h
   ·split at h
    ·cases h
    ·rename_i hn;injection h with h
     subst h;refine⟨b1,b2,b3,?_⟩;have hd:=zed (s.drop (a+9));have hv:=zew _ hd;generalize (s.drop (a+9)).takeWhile Gr.dig=l at *;have:Gr.val l*10 ^ (9-l.length)<10 ^ l.length*10 ^ (9-l.length):=Nat.mul_lt_mul_of_pos_right hv (Nat.pow_pos (by omega));rw[<-Nat.pow_add,show l.length+(9-l.length)=9 from by omega]at this;show Gr.val l*10 ^ (9-l.length)<=999999999;omega
   ·grind
  ·cases h
 ·cases h
theorem zwf {s:Gr.Str} {a:Nat} {z:Gr.Zn} (h:zoneAt s a=some z):z.h<=99/\z.m<=99:=by
 unfold zoneAt at h;split at h
 ·grind
 ·split at h
  ·rename_i h1 h2;split at h
   ·injection h with h;subst h;exact⟨numAt2 h1,numAt2 h2⟩
   ·cases h
  ·cases h
theorem zqt {s:Gr.Str} {x:Gr.Mo} (h:Gr.rd s=some x):MoOk x:=by
 unfold Gr.rd at h;split at h
 ·split at h
  ·rename_i k hk;obtain⟨b1,b2,b3,b4⟩:=zln hk;split at h
   ·injection h with h;subst h
    exact⟨Nat.zero_le _,Nat.zero_le _,Nat.zero_le _,b1,b2,b3,b4,Nat.zero_le _,Nat.zero_le _,.inr (.inr ⟨rfl,rfl,rfl⟩),fun _=>⟨rfl,rfl⟩⟩
   ·cases h
  ·cases h
 ·rename_i y m d hd;have hb:y<=9999/\m<=99/\d<=99:=by
   unfold dateAt at hd;split at hd
   ·rename_i h1 h2 h3;split at hd
    ·injection hd with hd
     injection hd with e1 e2
     injection e2 with e2 e3
     subst e1 e2 e3;exact⟨numAt4 h1,numAt2 h2,numAt2 h3⟩
    ·cases hd
   ·cases hd
  obtain⟨c1,c2,c3⟩:=hb;split at h
  ·injection h with h;subst h
   exact⟨c1,c2,c3,Nat.zero_le _,Nat.zero_le _,Nat.zero_le _,Nat.zero_le _,Nat.zero_le _,Nat.zero_le _,.inr (.inl ⟨rfl,rfl,rfl⟩),fun _=>⟨rfl,rfl⟩⟩
  ·split at h
   ·split at h
    ·cases h
    ·rename_i k hk;obtain⟨b1,b2,b3,b4⟩:=zln hk;split at h
     ·injection h with h;subst h
      exact⟨c1,c2,c3,b1,b2,b3,b4,Nat.zero_le _,Nat.zero_le _,.inl ⟨rfl,rfl⟩,fun _=>⟨rfl,rfl⟩⟩
     ·split at h
      ·rename_i z hz;obtain⟨d1,d2⟩:=zwf hz;split at h
       ·injection h with h;subst h
        exact⟨c1,c2,c3,b1,b2,b3,b4,d1,d2,.inl ⟨rfl,rfl⟩,fun e=>absurd e (zqn hz)⟩
       ·cases h
      ·cases h
   ·cases h
theorem zqu {x:Gr.Mo} (h:MoOk x):rngB x.date x.y x.m x.d x.h x.mi x.c (decide (23<x.zh) || decide (59<x.zm))=okR x:=by
 unfold rngB okR Cal.vld;have hy:decide ((0:Int)<=(x.y:Int))=true:=by simp
 have hy9:decide ((x.y:Int)<=9999)=true:=by have:=h.y;simp;omega
 rw[hy,hy9];have e1:decide ((x.h:Int)<=23)=decide (x.h<=23):=by rw[Bool.eq_iff_iff];simp;omega
 have e2:decide ((x.mi:Int)<=59)=decide (x.mi<=59):=by rw[Bool.eq_iff_iff];simp;omega
 have e3:decide ((x.c:Int)<=59)=decide (x.c<=59):=by rw[Bool.eq_iff_iff];simp;omega
 have e4:(!(decide (23<x.zh) || decide (59<x.zm)))=(decide (x.zh<=23) && decide (x.zm<=59)):=by rw[Bool.eq_iff_iff];simp
 rw[e1,e2,e3,e4];cases x.date<;>simp[Bool.and_assoc,Bool.and_comm,Bool.and_left_comm]
end Go.Proofs.YtoigpackhninoaaGreatDoor

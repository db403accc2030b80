import Derived.Test.YtpjmhafmeieloaaGreatDoorZ09
namespace Go.Proofs.YtpjmhafmeieloaaGreatDoor
namespace Gr
def ltS:Str->Str->Bool
 |_,[]=>false
 | [],_::_=>true
 |a::l,b::m=>decide (a.toNat<b.toNat) || (a==b && ltS l m)
def insR (t:Str):List Str->List Str
 | []=>[t]
 |y::r=>if ltS t y=true then y::insR t r else t::y::r
def insL (l:List Str) (t:Str):List Str:=(insR t l.reverse).reverse
def sortS (l:List Str):List Str:=l.foldl insL []
def printF (ns:List Nd):Nat->Nat->Str
 | 0,_=>[]
 |f+1,i=>match ns[i]? with
  |none=>[]
  |some x=>
   let es:=(List.range x.items.length).map (fun k=>(if x.kind=10 then printF ns f (x.keys.getD k 0)else[])++printF ns f (x.items.getD k 0))
   UInt8.ofNat (97+x.kind.toNat)::(Lib.decDigits x.text.length++58::(x.text++(Lib.decDigits x.items.length++40::((if x.kind=10/\x.ord=false then sortS es else es).flatten++41::(if x.ord=true then[33]else[])))))
theorem zhz (t:Str) (l:List Str):(insR t l).Perm (t::l):=by
 induction l with
 |nil=>exact .refl _
 |cons y r ih=>
  unfold insR;split
  .grind
  .exact .refl _
theorem zom (l:List Str) (t:Str):(insL l t).Perm (t::l):=by
 unfold insL;exact(List.reverse_perm _).trans ((zhz t _).trans ((List.reverse_perm l).cons t))
theorem zh0 (l:List Str):∀a,(l.foldl insL a).Perm (a++l):=by
 induction l with
 |nil=>intro a;simp
 |cons t l ih=>
  intro a;rw[List.foldl_cons];exact(ih _).trans (((zom a t).append_right l).trans (by simpa using(List.perm_middle (a:=t) (l₁:=a) (l₂:=l)).symm))
theorem za6 (l:List Str):(sortS l).Perm l:=by unfold sortS;simpa using zh0 l []
theorem zl1 (a:Str):ltS a a=false:=by
 induction a with
 |nil=>rfl
 |cons a l ih=>simp[ltS,ih]
theorem zh1 {a b c:Str} (h1:ltS a b=true) (h2:ltS b c=true):ltS a c=true:=by
 induction a generalizing b c with
 |nil=>cases b<;>cases c<;>simp_all [ltS]
 |cons x a ih=>
  cases b with
  |nil=>simp[ltS]at h1
  |cons y b=>
   cases c with
   |nil=>simp[ltS]at h2
   |cons z c=>
    simp only[ltS,Bool.or_eq_true,decide_eq_true_eq,Bool.and_eq_true,beq_iff_eq]at h1 h2 ⊢;rcases h1 with h1|⟨rfl,h1⟩
    .grind
    .grind
theorem zh2 {a b:Str} (h1:ltS a b=false) (h2:ltS b a=false):a=b:=by
 induction a generalizing b with
 |nil=>cases b with
  |nil=>rfl
  |cons=>simp[ltS]at h1
 |cons x a ih=>
  cases b with
  |nil=>simp[ltS]at h2
  |cons y b=>
   simp only[ltS,Bool.or_eq_false_iff,decide_eq_false_iff_not,Bool.and_eq_false_iff]at h1 h2;have:x=y:=by apply UInt8.toNat_inj.1;omega
   subst this;have c:ltS a b=false:=by
    rcases h1.2 with h|h
    .simp at h
    .exact h
   have d:ltS b a=false:=by
    rcases h2.2 with h|h
    .simp at h
    .exact h
   rw[ih c d]
def Desc (l:List Str):Prop:=l.Pairwise (fun a b=>ltS a b=false)
theorem zon (t:Str) (l:List Str) (h:Desc l):Desc (insR t l):=by
 induction l with
 |nil=>simp[insR,Desc]
 |cons y r ih=>
  unfold Desc at h ih ⊢;rw[List.pairwise_cons]at h;unfold insR;split
  .rename_i hlt;rw[List.pairwise_cons];refine⟨fun z b=>?_,ih h.2⟩;have:=(zhz t r).mem_iff.1 b;rcases List.mem_cons.1 this with rfl|h3
   .cases hc:ltS y z with
    |false=>rfl
    |true=>have:=zh1 hc hlt;rw[zl1]at this;cases this
   .exact h.1 z h3
  .rename_i hlt;have a:ltS t y=false:=by simpa using hlt
   rw[List.pairwise_cons,List.pairwise_cons];refine⟨fun z b=>?_,h⟩;rcases List.mem_cons.1 b with rfl|h3
   .exact a
   .cases hc:ltS t z with
    |false=>rfl
    |true=>
     have c:=h.1 z h3;cases hd:ltS z y with
     |true=>have:=zh1 hc hd;rw[a]at this;cases this
     |false=>have:=zh2 c hd;subst this;rw[a]at hc;cases hc
theorem zvi {l m:List Str} (hl:Desc l) (hm:Desc m) (hp:l.Perm m):l=m:=
 List.Perm.eq_of_pairwise (le:=fun a b=>ltS a b=false) (fun _ _ _ _ d c=>zh2 d c) hl hm hp
theorem zh3 (l:List Str):∀a,Desc a.reverse->Desc (l.foldl insL a).reverse:=by
 induction l with
 |nil=>intro a h;exact h
 |cons t l ih=>
  intro a h;rw[List.foldl_cons];apply ih;unfold insL;rw[List.reverse_reverse];exact zon t _ h
theorem zsb {l m:List Str} (h:l.Perm m):sortS l=sortS m:=by
 have c:=zh3 l [] (by simp[Desc]);have a:=zh3 m [] (by simp[Desc]);have b:((sortS l).reverse).Perm ((sortS m).reverse):=(List.reverse_perm _).trans (((za6 l).trans (h.trans (za6 m).symm)).trans (List.reverse_perm _).symm);have:=congrArg List.reverse (zvi c a b);simpa[sortS]using this
theorem zoo {l m:List Str} (h:sortS l=sortS m):l.Perm m:=(za6 l).symm.trans (h▸za6 m)
def ents (ns:List Nd) (f:Nat) (x:Nd):List Str:=(List.range x.items.length).map (fun k=>(if x.kind=10 then printF ns f (x.keys.getD k 0)else[])++printF ns f (x.items.getD k 0))
def entS (ns:List Nd) (f:Nat) (x:Nd):List Str:=if x.kind=10/\x.ord=false then sortS (ents ns f x)else ents ns f x
theorem zaj {ns:List Nd} {f i:Nat} {x:Nd} (h:ns[i]? =some x):printF ns (f+1) i=
 UInt8.ofNat (97+x.kind.toNat)::(Lib.decDigits x.text.length++58::(x.text++(Lib.decDigits x.items.length++40::((entS ns f x).flatten++41::(if x.ord=true then[33]else[]))))):=by
 unfold printF entS ents;rw[h]
theorem zh4 {a b:Nat} {r r':Str} {c:UInt8} (hc:dig c=false) (h:Lib.decDigits a++c::r=Lib.decDigits b++c::r'):a=b/\r=r':=by
 have e:=zf4 (p:=dig) (Lib.decDigits a) c r (fun x d=>List.all_eq_true.1 (zal a) x d) hc;have f:=zf4 (p:=dig) (Lib.decDigits b) c r' (fun x d=>List.all_eq_true.1 (zal b) x d) hc;rw[h]at e;have g:Lib.decDigits a=Lib.decDigits b:=e.1.symm.trans f.1;have i:c::r=c::r':=e.2.symm.trans f.2;refine⟨?_,by injection i⟩;have:=congrArg val g;rwa[zam,zam]at this
def NodesOk (ns:List Nd):Prop:=∀x∈ns,0<=x.kind/\x.kind<=11/\(x.kind=10->x.keys.length=x.items.length)
def Tall' (ns:List Nd):Nat->Nat->Prop
 | 0,_=>False
 |f+1,i=>∀x∈succ ns i,Tall' ns f x
structure TOk (ns:List Nd) (f i:Nat):Prop where
 lt:i<ns.length
 tall:Tall' ns f i
def no33 (r:Str):Prop:=r.head?≠some 33
def ElemOk (ns:List Nd) (f:Nat) (m:Bool) (e:Str):Prop:=if m=true then∃a b,TOk ns f a/\TOk ns f b/\e=printF ns f a++printF ns f b else∃b,TOk ns f b/\e=printF ns f b
section
variable {ns:List Nd}
theorem za0 (hok:NodesOk ns) {f i:Nat} (h:TOk ns f i) (r:Str):no33 (printF ns f i++r)/\(printF ns f i++r)≠[]:=by
 obtain⟨a,b⟩:=h;cases f with
 |zero=>exact absurd b id
 |succ f=>
  rw[zaj (List.getElem?_eq_getElem a)];refine⟨?_,by simp⟩;unfold no33;have hk:=hok _ (List.getElem_mem a);intro h;simp only[List.cons_append,List.head?_cons,Option.some.injEq]at h;have:=congrArg UInt8.toNat h;rw[UInt8.toNat_ofNat',Nat.mod_eq_of_lt (by omega)]at this;have h33:(33:UInt8).toNat=33:=rfl;omega
theorem zh5 (hok:NodesOk ns) {f:Nat} {m:Bool} {e:Str} (h:ElemOk ns f m e) (r:Str):no33 (e++r):=by
 unfold ElemOk at h;split at h
 .obtain⟨a,b,d,_,rfl⟩:=h;rw[List.append_assoc];exact(za0 hok d _).1
 .obtain⟨b,c,rfl⟩:=h;exact(za0 hok c _).1
theorem zh6 {f:Nat} {m:Bool} (hh:∀e,ElemOk ns f m e->∀r,no33 (e++r)) (L:List Str) (hL:∀e∈L,ElemOk ns f m e) (q:Str):no33 (L.flatten++41::q):=by
 cases L with
 |nil=>simp[no33]
 |cons e L=>
  grind
theorem zop (hok:NodesOk ns) (hr:Refs ns) {f i:Nat} (hi:i<ns.length) (ht:Tall' ns (f+1) i):∀e∈entS ns f ns[i],ElemOk ns f (decide (ns[i].kind=10)) e:=by
 have b:∀e∈entS ns f ns[i],e∈ents ns f ns[i]:=by
  intro e a;unfold entS at a;split at a
  .exact(za6 _).mem_iff.1 a
  .exact a
 intro e a;have c:=b e a;unfold ents at c;obtain⟨k,g,rfl⟩:=List.mem_map.1 c;have hkl:=List.mem_range.1 g;have d:=hok _ (List.getElem_mem hi);have hs:succ ns i=ns[i].keys++ns[i].items:=by unfold succ;rw[List.getElem?_eq_getElem hi]
 have hit:ns[i].items.getD k 0∈succ ns i:=by
  grind
 have ok2:∀x∈succ ns i,TOk ns f x:=fun x d=>⟨hr.succ i x d,ht x d⟩
 unfold ElemOk;by_cases h10:ns[i].kind=10
 .grind
 .grind
def SplitAt (ns:List Nd) (f:Nat):Prop:=∀(i g j:Nat) (r r':Str),TOk ns f i->TOk ns g j->no33 r->no33 r'->printF ns f i++r=printF ns g j++r'->printF ns f i=printF ns g j/\r=r'
theorem zl2 (hok:NodesOk ns) {f g:Nat} {m:Bool} (ih:SplitAt ns f) {e e' r r':Str} (h:ElemOk ns f m e) (h':ElemOk ns g m e') (hr1:no33 r) (hr2:no33 r') (he:e++r=e'++r'):e=e'/\r=r':=by
 unfold ElemOk at h h';split at h
 .rename_i hm;rw[if_pos hm]at h';obtain⟨a,b,o,d,rfl⟩:=h;obtain⟨q,i,j,c,rfl⟩:=h';rw[List.append_assoc,List.append_assoc]at he;obtain⟨l,p⟩:=ih a g q _ _ o j (za0 hok d _).1 (za0 hok c _).1 he;obtain⟨k,n⟩:=ih b g i _ _ d c hr1 hr2 p;exact⟨by rw[l,k],n⟩
 .rename_i hm;rw[if_neg hm]at h';obtain⟨b,d,rfl⟩:=h;obtain⟨i,c,rfl⟩:=h';exact ih b g i _ _ d c hr1 hr2 he
theorem zl3 (hok:NodesOk ns) {f g:Nat} {m:Bool} (ih:SplitAt ns f):∀(L M:List Str) (q q':Str),L.length=M.length->(∀e∈L,ElemOk ns f m e)->(∀e∈M,ElemOk ns g m e)->L.flatten++41::q=M.flatten++41::q'->L=M/\q=q':=by
 intro L
 induction L with
 |nil=>
  grind
 |cons e L ihL=>
  intro M q q' h j i a;cases M with
  |nil=>simp at h
  |cons e' M=>
   rw[List.flatten_cons,List.flatten_cons,List.append_assoc,List.append_assoc]at a;have c:=fun x d=>j x (.tail _ d)
   have b:=fun x d=>i x (.tail _ d)
   obtain⟨o,n⟩:=zl2 hok ih (j e (.head _)) (i e' (.head _)) (zh6 (fun e a r=>zh5 hok a r) L c q) (zh6 (fun e a r=>zh5 hok a r) M b q') a;obtain⟨k,l⟩:=ihL M q q' (by simpa using h) c b n;exact⟨by rw[o,k],l⟩
theorem zkv (f:Nat) (x:Nd):(entS ns f x).length=x.items.length:=by
 unfold entS;split
 .rw[(za6 _).length_eq];simp[ents]
 .simp[ents]
theorem zoq {a b:Bool} {r r':Str} (h1:no33 r) (h2:no33 r') (h:(if a=true then[33]else[])++r=(if b=true then[33]else[])++r'):a=b/\r=r':=by
 cases a<;>cases b<;>simp at h ⊢
 .exact h
 .rw[h]at h1;simp[no33]at h1
 .rw[<-h]at h2;simp[no33]at h2
 .exact h
theorem zex (hok:NodesOk ns) (hr:Refs ns) {f g i j:Nat} (ih:SplitAt ns f) (hi:TOk ns (f+1) i) (hj:TOk ns (g+1) j) {r r':Str} (h1:no33 r) (h2:no33 r') (h:printF ns (f+1) i++r=printF ns (g+1) j++r'):
 (ns[i]'hi.lt).kind=(ns[j]'hj.lt).kind/\(ns[i]'hi.lt).text=(ns[j]'hj.lt).text/\(ns[i]'hi.lt).ord=(ns[j]'hj.lt).ord/\(ns[i]'hi.lt).items.length=(ns[j]'hj.lt).items.length/\entS ns f (ns[i]'hi.lt)=entS ns g (ns[j]'hj.lt)/\r=r':=by
 have s:=zop hok hr hi.lt hi.tall;have m:=zop hok hr hj.lt hj.tall;rw[zaj (List.getElem?_eq_getElem hi.lt),zaj (List.getElem?_eq_getElem hj.lt)]at h;have k1:=hok _ (List.getElem_mem hi.lt);have k2:=hok _ (List.getElem_mem hj.lt);have o:=zkv (ns:=ns) f (ns[i]'hi.lt);have q:=zkv (ns:=ns) g (ns[j]'hj.lt);generalize ns[i]'hi.lt=x at *;generalize ns[j]'hj.lt=y at *;simp only[List.cons_append,List.append_assoc]at h;injection h with h3 h4
 have v:=congrArg UInt8.toNat h3;rw[UInt8.toNat_ofNat',UInt8.toNat_ofNat',Nat.mod_eq_of_lt (by omega),Nat.mod_eq_of_lt (by omega)]at v;have a:x.kind=y.kind:=by omega
 obtain⟨n,u⟩:=zh4 (by decide) h4;obtain⟨p,t⟩:=List.append_inj u n;obtain⟨b,l⟩:=zh4 (by decide) t;rw[<-a]at m;obtain⟨c,k⟩:=zl3 hok ih _ _ _ _ (by rw[o,q,b]) s m l;obtain⟨e,d⟩:=zoq h1 h2 k;exact⟨a,p,e,b,c,d⟩
theorem zc8 (hok:NodesOk ns) (hr:Refs ns):∀f,SplitAt ns f:=by
 intro f
 induction f with
 |zero=>intro i g j r p k;exact absurd k.tall id
 |succ f ih=>
  intro i g j r p k l m o h;cases g with
  |zero=>exact absurd l.tall id
  |succ g=>
   obtain⟨a,b,c,d,e,n⟩:=zex hok hr ih k l m o h;refine⟨?_,n⟩;rw[zaj (List.getElem?_eq_getElem k.lt),zaj (List.getElem?_eq_getElem l.lt),a,b,c,d,e]
theorem zgu (hok:NodesOk ns) (hr:Refs ns):∀(f i j:Nat),TOk ns f i->TOk ns f j->printF ns f i=printF ns f j->sameF ns f i j=true:=by
 intro f
 induction f with
 |zero=>intro i j n;exact absurd n.tall id
 |succ f ih=>
  intro i j n t h;obtain⟨a,b,c,d,e,_⟩:=zex hok hr (zc8 hok hr f) n t (r:=[]) (r':=[]) (by simp[no33]) (by simp[no33]) (by rw[h]);have v:∀x∈succ ns i,TOk ns f x:=fun x C=>⟨hr.succ i x C,n.tall x C⟩
  have w:∀x∈succ ns j,TOk ns f x:=fun x C=>⟨hr.succ j x C,t.tall x C⟩
  have s1:succ ns i=(ns[i]'n.lt).keys++(ns[i]'n.lt).items:=by unfold succ;rw[List.getElem?_eq_getElem n.lt]
  have s2:succ ns j=(ns[j]'t.lt).keys++(ns[j]'t.lt).items:=by unfold succ;rw[List.getElem?_eq_getElem t.lt]
  rw[s1]at v;rw[s2]at w;have O:=hok _ (List.getElem_mem n.lt);have L:=hok _ (List.getElem_mem t.lt);unfold sameF;rw[List.getElem?_eq_getElem n.lt,List.getElem?_eq_getElem t.lt];generalize ns[i]'n.lt=x at *;generalize ns[j]'t.lt=y at *;simp only;rw[if_neg (by rintro(h|h|h|h)<;>contradiction)];have R:∀k,k<x.items.length->TOk ns f (x.items.getD k 0):=fun k m=>v _ (List.mem_append_right _ (by rw[List.getD_eq_getElem?_getD,List.getElem?_eq_getElem m];exact List.getElem_mem m))
  have Q:∀k,k<y.items.length->TOk ns f (y.items.getD k 0):=fun k m=>w _ (List.mem_append_right _ (by rw[List.getD_eq_getElem?_getD,List.getElem?_eq_getElem m];exact List.getElem_mem m))
  have K:x.kind=10->∀k,k<x.items.length->TOk ns f (x.keys.getD k 0):=fun o k m=>v _ (List.mem_append_left _ (by rw[List.getD_eq_getElem?_getD,List.getElem?_eq_getElem (by rw[O.2.2 o];exact m)];exact List.getElem_mem _))
  have F:y.kind=10->∀k,k<y.items.length->TOk ns f (y.keys.getD k 0):=fun o k m=>w _ (List.mem_append_left _ (by rw[List.getD_eq_getElem?_getD,List.getElem?_eq_getElem (by rw[L.2.2 o];exact m)];exact List.getElem_mem _))
  have I:∀{a b a' b':Nat},TOk ns f a->TOk ns f b->TOk ns f a'->TOk ns f b'->printF ns f a++printF ns f b=printF ns f a'++printF ns f b'->sameF ns f a a'=true/\sameF ns f b b'=true:=by
   intro a b a' b' N M E A u;obtain⟨B,z⟩:=zc8 hok hr f a f a' _ _ N E (by simpa using(za0 hok M []).1) (by simpa using(za0 hok A []).1) u;exact⟨ih a a' N E B,ih b b' M A z⟩
  by_cases hm:x.kind=10/\x.ord=false
  .rw[if_pos hm];unfold entS at e;rw[if_pos hm,if_pos ⟨a▸hm.1,c▸hm.2⟩]at e;have P:=zoo e;rw[List.all_eq_true];intro p H;obtain⟨k,m,D⟩:=List.mem_iff_getElem.1 H;have g:k<x.items.length:=by rw[List.length_zip]at m;omega
   have G:k<x.keys.length:=by rw[List.length_zip]at m;omega
   rw[List.getElem_zip]at D;subst D;have s:(printF ns f (x.keys.getD k 0)++printF ns f (x.items.getD k 0))∈ents ns f y:=by
    refine P.mem_iff.1 ?_;unfold ents;exact List.mem_map.2 ⟨k,List.mem_range.2 g,by rw[if_pos hm.1]⟩
   unfold ents at s;obtain⟨l,S,u⟩:=List.mem_map.1 s;have q:=List.mem_range.1 S;rw[if_pos (a▸hm.1)]at u;obtain⟨B,z⟩:=I (K hm.1 k g) (R k g) (F (a▸hm.1) l q) (Q l q) u.symm;have J:l<y.keys.length:=by rw[L.2.2 (a▸hm.1)];exact q
   rw[List.any_eq_true];refine⟨(y.keys[l],y.items[l]),List.mem_iff_getElem.2 ⟨l,by rw[List.length_zip];omega,by rw[List.getElem_zip]⟩,?_⟩;rw[List.getD_eq_getElem?_getD,List.getElem?_eq_getElem G,List.getD_eq_getElem?_getD,List.getElem?_eq_getElem J]at B;rw[List.getD_eq_getElem?_getD,List.getElem?_eq_getElem g,List.getD_eq_getElem?_getD,List.getElem?_eq_getElem q]at z;simp only[Option.getD_some]at B z;rw[B,z];rfl
  .rw[if_neg hm];unfold entS at e;rw[if_neg hm,if_neg (by rw[<-a,<-c];exact hm)]at e;unfold ents at e;rw[List.all_eq_true];intro k m;have g:=List.mem_range.1 m;have u:((List.range x.items.length).map (fun k=>(if x.kind=10 then printF ns f (x.keys.getD k 0)else[])++printF ns f (x.items.getD k 0)))[k]? =((List.range y.items.length).map (fun k=>(if y.kind=10 then printF ns f (y.keys.getD k 0)else[])++printF ns f (y.items.getD k 0)))[k]? :=by rw[e]
   rw[List.getElem?_map,List.getElem?_map,List.getElem?_range g,List.getElem?_range (d▸g)]at u;simp only[Option.map_some,Option.some.injEq]at u;by_cases o:x.kind=10
   .grind
   .grind
end
end Gr
namespace Gr
def dupS:List Str->Bool
 | []=>false
 |x::l=>l.any (fun y=>y==x) || dupS l
def rtwice (ns:List Nd) (f:Nat):Bool:=ns.any (fun x=>dupS (x.keys.map (printF ns f)))
theorem zdv (l:List Str):dupS l=false↔l.Nodup:=by
 induction l with
 |nil=>simp[dupS]
 |cons x l ih=>
  unfold dupS;rw[Bool.or_eq_false_iff,ih,List.nodup_cons];constructor
  .grind
  .grind
theorem zey {α:Type} [DecidableEq α]:∀(l m:List α),l.Nodup->(∀x∈l,x∈m)->m.length<=l.length->l.Perm m:=by
 intro l
 induction l with
 |nil=>intro m _ _ f;cases m with
  |nil=>exact .refl _
  |cons=>simp at f
 |cons a l ih=>
  intro m d h f;rw[List.nodup_cons]at d;have j:=h a (.head _);have g:=List.perm_cons_erase j;have b:=g.length_eq;rw[List.length_cons]at b;refine((ih (m.erase a) d.2 (fun x i=>?_) (by rw[List.length_cons]at f;omega)).cons a).trans g.symm;have c:=h x (.tail _ i);exact(List.mem_erase_of_ne (fun e=>d.1 (by rw[<-e];exact i))).2 c
section
variable {ns:List Nd}
theorem zf5 (hok:NodesOk ns) (hr:Refs ns):∀(f g i:Nat),TOk ns f i->TOk ns g i->printF ns f i=printF ns g i:=by
 intro f
 induction f with
 |zero=>intro g i a;exact absurd a.tall id
 |succ f ih=>
  intro g i a e;cases g with
  |zero=>exact absurd e.tall id
  |succ g=>
   rw[zaj (List.getElem?_eq_getElem a.lt),zaj (List.getElem?_eq_getElem a.lt)];have j:ents ns f (ns[i]'a.lt)=ents ns g (ns[i]'a.lt):=by
    have s1:succ ns i=(ns[i]'a.lt).keys++(ns[i]'a.lt).items:=by unfold succ;rw[List.getElem?_eq_getElem a.lt]
    have k1:=hok _ (List.getElem_mem a.lt);have d:∀x∈succ ns i,printF ns f x=printF ns g x:=fun x c=>ih g x ⟨hr.succ i x c,a.tall x c⟩ ⟨hr.succ i x c,e.tall x c⟩
    rw[s1]at d;generalize ns[i]'a.lt=x at *;unfold ents;apply List.map_congr_left;intro k l;have b:=List.mem_range.1 l;have h:=d (x.items.getD k 0) (List.mem_append_right _ (by rw[List.getD_eq_getElem?_getD,List.getElem?_eq_getElem b];exact List.getElem_mem b));by_cases h10:x.kind=10
    .grind
    .rw[if_neg h10,if_neg h10,h]
   unfold entS;rw[j]
theorem za3 {l:List Nat} {k:Nat} (h:k<l.length):l.getD k 0=l[k]:=by rw[List.getD_eq_getElem?_getD,List.getElem?_eq_getElem h];rfl
theorem zgv (hok:NodesOk ns) (hr:Refs ns) (F:Nat) (hF:∀k∈allKeys ns,TOk ns F k) (hd:∀x∈ns,(x.keys.map (printF ns F)).Nodup):∀(f i j:Nat),TOk ns f i->TOk ns f j->sameF ns f i j=true->printF ns f i=printF ns f j:=by
 intro f
 induction f with
 |zero=>intro i j m;exact absurd m.tall id
 |succ f ih=>
  intro i j m o h;have g:∀x∈succ ns i,TOk ns f x:=fun x C=>⟨hr.succ i x C,m.tall x C⟩
  have n:∀x∈succ ns j,TOk ns f x:=fun x C=>⟨hr.succ j x C,o.tall x C⟩
  have s1:succ ns i=(ns[i]'m.lt).keys++(ns[i]'m.lt).items:=by unfold succ;rw[List.getElem?_eq_getElem m.lt]
  have s2:succ ns j=(ns[j]'o.lt).keys++(ns[j]'o.lt).items:=by unfold succ;rw[List.getElem?_eq_getElem o.lt]
  have N:=hok _ (List.getElem_mem m.lt);have Q:=hok _ (List.getElem_mem o.lt);have R:=hd _ (List.getElem_mem m.lt);have M:∀k∈(ns[i]'m.lt).keys,printF ns F k=printF ns f k:=fun k t=>by
   refine zf5 hok hr F f k (hF k (List.mem_flatMap.2 ⟨_,List.getElem_mem m.lt,t⟩)) (g k ?_);rw[s1];exact List.mem_append_left _ t
  rw[s1]at g;rw[s2]at n;unfold sameF at h;rw[List.getElem?_eq_getElem m.lt,List.getElem?_eq_getElem o.lt]at h;rw[zaj (List.getElem?_eq_getElem m.lt),zaj (List.getElem?_eq_getElem o.lt)];generalize ns[i]'m.lt=x at *;generalize ns[j]'o.lt=y at *;simp only at h;split at h
  .cases h
  .rename_i hne;have a:x.kind=y.kind:=Decidable.by_contra fun e=>hne (.inl e)
   have b:x.text=y.text:=Decidable.by_contra fun e=>hne (.inr (.inl e))
   have c:x.ord=y.ord:=Decidable.by_contra fun e=>hne (.inr (.inr (.inl e)))
   have d:x.items.length=y.items.length:=Decidable.by_contra fun e=>hne (.inr (.inr (.inr e)))
   have D:entS ns f x=entS ns f y:=by
    unfold entS;split at h
    .rename_i hm;rw[if_pos hm,if_pos ⟨a▸hm.1,c▸hm.2⟩];apply zsb;have lx:=N.2.2 hm.1;have ly:=Q.2.2 (a▸hm.1);refine zey _ _ ?_ ?_ (by simp[ents,d])
     .unfold ents;simp only[if_pos hm.1];unfold List.Nodup;rw[List.pairwise_map];have r:=R;unfold List.Nodup at r;rw[List.pairwise_map,List.pairwise_iff_getElem]at r;rw[List.pairwise_iff_getElem];intro p q O P J D;have hpl:p<x.items.length:=by simpa using O
      have hql:q<x.items.length:=by simpa using P
      rw[List.getElem_range,List.getElem_range]at D;have T:TOk ns f (x.keys.getD p 0):=g _ (List.mem_append_left _ (by rw[za3 (by omega)];exact List.getElem_mem _));have U:TOk ns f (x.keys.getD q 0):=g _ (List.mem_append_left _ (by rw[za3 (by omega)];exact List.getElem_mem _));have I:TOk ns f (x.items.getD p 0):=g _ (List.mem_append_right _ (by rw[za3 (by omega)];exact List.getElem_mem _));have K:TOk ns f (x.items.getD q 0):=g _ (List.mem_append_right _ (by rw[za3 (by omega)];exact List.getElem_mem _));obtain⟨G,_⟩:=zc8 hok hr f _ f _ _ _ T U (by simpa using(za0 hok I []).1) (by simpa using(za0 hok K []).1) D;rw[za3 (by omega),za3 (by omega)]at G;have A:=r p q (by omega) (by omega) J;apply A;rw[M _ (List.getElem_mem _),M _ (List.getElem_mem _)];exact G
     .intro e w;unfold ents at w ⊢;obtain⟨k,t,rfl⟩:=List.mem_map.1 w;have s:=List.mem_range.1 t;rw[List.all_eq_true]at h;have z:=h (x.keys[k],x.items[k]) (List.mem_iff_getElem.2 ⟨k,by rw[List.length_zip];omega,by rw[List.getElem_zip]⟩);rw[List.any_eq_true]at z;obtain⟨⟨u,v⟩,H,E⟩:=z;obtain⟨l,S,B⟩:=List.mem_iff_getElem.1 H;rw[List.length_zip]at S;rw[List.getElem_zip]at B;injection B with hu hv
      rw[Bool.and_eq_true]at E;simp only at E;have G:=ih _ _ (g _ (List.mem_append_left _ (List.getElem_mem _))) (n u (List.mem_append_left _ (by rw[<-hu];exact List.getElem_mem _))) E.1;have L:=ih _ _ (g _ (List.mem_append_right _ (List.getElem_mem _))) (n v (List.mem_append_right _ (by rw[<-hv];exact List.getElem_mem _))) E.2;refine List.mem_map.2 ⟨l,List.mem_range.2 (by omega),?_⟩;rw[if_pos hm.1,if_pos (a▸hm.1),za3 (by omega),za3 (by omega),za3 (by omega),za3 (by omega),hu,hv,G,L]
    .rename_i hm;rw[if_neg hm,if_neg (by rw[<-a,<-c];exact hm)];unfold ents;rw[<-d];apply List.map_congr_left;intro k t;have s:=List.mem_range.1 t;rw[List.all_eq_true]at h;have z:=h k t;rw[Bool.and_eq_true,Bool.or_eq_true]at z;have L:=ih _ _ (g _ (List.mem_append_right _ (by rw[za3 s];exact List.getElem_mem _))) (n _ (List.mem_append_right _ (by rw[za3 (d▸s)];exact List.getElem_mem _))) z.2;by_cases h10:x.kind=10
     .grind
     .grind
   rw[a,b,c,d,D]
theorem zgw (hok:NodesOk ns) (hr:Refs ns) (F:Nat):∀L:List Nat,(∀k∈L,TOk ns F k)->dupS (L.map (printF ns F))=true->twice1 ns F L=true:=by
 intro L
 induction L with
 |nil=>intro _ h;cases h
 |cons x l ih=>
  intro a h;rw[List.map_cons]at h;unfold dupS at h;unfold twice1;rw[Bool.or_eq_true]at h ⊢;rcases h with h|h
  .left;rw[List.any_eq_true]at h ⊢;obtain⟨s,c,d⟩:=h;obtain⟨y,b,rfl⟩:=List.mem_map.1 c;exact⟨y,b,zgu hok hr F y x (a y (.tail _ b)) (a x (.head _)) (by simpa using d)⟩
  .grind
theorem zor (F:Nat):∀L:List Nat,(∀a∈L,∀b∈L,sameF ns F a b=true->printF ns F a=printF ns F b)->dupS (L.map (printF ns F))=false->twice1 ns F L=false:=by
 intro L
 induction L with
 |nil=>intro _ _;rfl
 |cons x l ih=>
  intro d h;rw[List.map_cons]at h;unfold dupS at h;unfold twice1;rw[Bool.or_eq_false_iff]at h ⊢;refine⟨?_,ih (fun a g b f=>d a (.tail _ g) b (.tail _ f)) h.2⟩;rw[List.any_eq_false];intro y e j;have i:=d y (.tail _ e) x (.head _) j;have c:=h.1;rw[List.any_eq_false]at c;exact c _ (List.mem_map.2 ⟨y,e,rfl⟩) (by simp[i])
theorem zem (hok:NodesOk ns) (hr:Refs ns) (F:Nat) (hF:∀k∈allKeys ns,TOk ns F k):twice ns F=rtwice ns F:=by
 have e:∀x∈ns,∀k∈x.keys,TOk ns F k:=fun x c k e=>hF k (List.mem_flatMap.2 ⟨x,c,e⟩)
 cases h:rtwice ns F with
 |true=>
  unfold rtwice at h;obtain⟨x,c,j⟩:=List.any_eq_true.1 h;unfold twice;exact List.any_eq_true.2 ⟨x,c,zgw hok hr F _ (e x c) j⟩
 |false=>
  unfold rtwice at h;have d:∀x∈ns,dupS (x.keys.map (printF ns F))=false:=fun x c=>by simpa using List.any_eq_false.1 h x c
  unfold twice;rw[List.any_eq_false];intro x c;rw[Bool.not_eq_true];exact zor F _ (fun a i b g f=>zgv hok hr F hF (fun z l=>(zdv _).1 (d z l)) F a b (e x c a i) (e x c b g) f) (d x c)
end
end Gr
open Gr
open _root_.Go.Proofs.Tryz
open _root_.Go.Lib (hid)
set_option maxRecDepth 100000
set_option maxHeartbeats 16000000
open Go.RowKit
noncomputable def osP (n:Int) (nanos:Nat):Gr.Str×Nat:=if n< -62167219200\/253402300800<=n then([],13)else(momS (n /86400) (n%86400).toNat nanos,0)
def zde (r:Gr.Str×Nat) (w:World) (e:Ending) (w':World):Prop:=e=.returned (.tuple #[.string ⟨r.1.toArray⟩,.int .i64 (r.2:Nat)])/\Below w.heap.size w w'
theorem ztl {n:Int} {y m d:Int} (hv:Cal.vld y m d=true) (hn:Cal.num y m d=n):∃a b c:Nat,y=a/\m=b/\d=c/\a<=9999/\b<=99/\c<=99/\dateOf n=(a,b,c):=by
 have h:=Cal.zpa hv;have hd:=Cal.zxv y m;refine⟨y.toNat,m.toNat,d.toNat,by omega,by omega,by omega,by omega,by omega,by omega,?_⟩;apply zij
 .rw[show((y.toNat:Nat):Int)=y from by omega,show((m.toNat:Nat):Int)=m from by omega,show((d.toNat:Nat):Int)=d from by omega];exact hv
 .rw[show((y.toNat:Nat):Int)=y from by omega,show((m.toNat:Nat):Int)=m from by omega,show((d.toNat:Nat):Int)=d from by omega,hn]
theorem zy6 (n:Int):-86400<n.tmod 86400/\n.tmod 86400<86400/\n=86400*n.tdiv 86400+n.tmod 86400:=by
 have h1:=Int.mul_tdiv_add_tmod n 86400;have h2:=Int.tmod_lt_of_pos n (b:=86400) (by omega);have a:=Int.tmod_lt_of_pos (-n) (b:=86400) (by omega);rw[Int.neg_tmod]at a;omega
theorem zhk (n:Int) (nanos:Nat) (j:Int) (hj:j=(nanos:Int)) (hna:nanos<=999999999) (h0:-900000000000<=n) (h1:n<=900000000000) (w:World) (hT:UT w):
 Calls prog 56 #[.int .i64 n,.int .i64 j] w (zde (osP n nanos) w):=by
 subst hj;have HT:=hid hT;clear hT;have hna0:¬(nanos:Int)<0:=by omega
 have hna1:¬(999999999:Int)<(nanos:Int):=by omega
 by_cases hlo:n< -62167219200
 .have E:Hid (osP n nanos=([],13)):=hid (by unfold osP;rw[if_pos (.inl hlo)]);rw[E.out];go_enter func56,ntmps56;go_wp2;go_ret2;exact⟨rfl,Below.refl _ _⟩
 .by_cases hhi:253402300800<=n
  .have E:Hid (osP n nanos=([],13)):=hid (by unfold osP;rw[if_pos (.inr hhi)]);rw[E.out];go_enter func56,ntmps56;go_wp2;go_ret2;exact⟨rfl,Below.refl _ _⟩
  .obtain⟨D,I⟩:=ex (n /86400)
   obtain⟨R,Q⟩:∃R:Nat,(n%86400).toNat=R:=⟨_,rfl⟩
   have O:-719528<=D:=by omega
   have L:D<=2932896:=by omega
   have hR1:R<=86399:=by omega
   have F:Hid (n /86400=D/\n%86400=(R:Int)):=hid ⟨I,by omega⟩;obtain⟨M,G⟩:=ex (momS D R nanos)
   have HM:=hid G;have E:Hid (osP n nanos=(M,0)):=hid (by unfold osP;rw[if_neg (by omega),I,Q,G]);rw[E.out];have N:=hid (fun W=>ztk D O L W);clear I Q G;go_enter func56,ntmps56;go_upto_region 5 with fail;go_cut [6,7] (fun s6 s7 K=>(∃q t:Int,s6=.int .i64 q/\s7=.int .i64 t/\Hid (n=86400*q+t/\-86400<t/\t<86400))/\K=w)
   case first=>
    by_cases hn0:0<=n
    .go_wp2;go_meet;exact⟨⟨_,_,rfl,rfl,hid ⟨by omega,by omega,by omega⟩⟩,rfl⟩
    .have z:=hid (zy6 n);go_wp2;go_meet;exact⟨⟨_,_,rfl,rfl,hid ⟨z.out.2.2,z.out.1,z.out.2.1⟩⟩,rfl⟩
   case rest=>
   obtain⟨⟨q,t,rfl,rfl,f⟩,rfl⟩:=hcut;refine(‹∀(a:Act) (w_1:World),Code.wp prog _ _ a w_1->_›) _ _ ?_;have Z:-86400<t:=f.out.2.1;have X:t<86400:=f.out.2.2;have V:-11000000<=q:=by have:=f.out;omega
   have Y:q<=11000000:=by have:=f.out;omega
   go_upto_if 30 with fail;go_cut [6,7] (fun s6 s7 K=>s6=.int .i64 D/\s7=.int .i64 (R:Int)/\K=wc)
   case first=>
    by_cases ht:t<0
    .have s:Hid (q-1=D/\t+86400=(R:Int)):=hid (by have h1:=f.out;have T:=F.out;omega);go_wp2;go_meet;rw[s.out.1,s.out.2];exact⟨rfl,rfl,rfl⟩
    .have s:Hid (q=D/\t=(R:Int)):=hid (by have h1:=f.out;have T:=F.out;omega);go_wp2;go_meet;rw[s.out.1,s.out.2];exact⟨rfl,rfl,rfl⟩
   case rest=>
   obtain⟨rfl,rfl,rfl⟩:=hcut;refine(‹∀(a:Act) (w_1:World),Code.wp prog _ _ a w_1->_›) _ _ ?_;clear Z X V Y;go_wp2_with fail;refine(N.out _).mono ?_;rintro e P ⟨y,m,d,rfl,U,o,p⟩;obtain⟨a,b,c,rfl,rfl,rfl,ha,z,hc,r⟩:=ztl U o;obtain⟨h,B⟩:∃h:Nat,R /3600=h:=⟨_,rfl⟩
   obtain⟨k,A⟩:∃k:Nat,R /60%60=k:=⟨_,rfl⟩
   obtain⟨i,x⟩:∃i:Nat,R%60=i:=⟨_,rfl⟩
   have i1:(R:Int) /3600=(h:Int):=by omega
   have i2:(R:Int) /60%60=(k:Int):=by omega
   have i3:(R:Int)%60=(i:Int):=by omega
   have u:Hid (∀W,UT W->Calls prog 85 #[.agg #[.int .i64 3,.int .i64 (a:Int),.int .i64 (b:Int),.int .i64 (c:Int),.int .i64 (h:Int),.int .i64 (k:Int),.int .i64 (i:Int),.int .i64 0,.int .i64 0,.int .i64 (nanos:Int),.int .u8 0]] W fun e w'=>e=.returned (.string ⟨(dateS a b c++[84]++clkS h k i nanos).toArray⟩)/\Below W.heap.size W w'):=hid (fun W hW=>zqw a b c h k i nanos 0 0 0 ha z hc (by omega) (by omega) (by omega) hna W hW);have C:Hid (M=(dateS a b c++[84]++clkS h k i nanos)++[90]):=hid (by rw[<-HM.out];unfold momS;rw[r,B,A,x];simp);obtain⟨S,J⟩:=ex (dateS a b c++[84]++clkS h k i nanos)
   have hSl:S.length<=1000:=by
    rw[<-J];have T:(nanoS nanos).length<=10:=by
     unfold nanoS;split
     .simp
     .unfold trimZ;rw[List.length_cons,List.length_reverse];have:=(List.dropWhile_sublist (fun c:UInt8=>c==48) (l:=(Gr.pd 9 nanos).reverse)).length_le;rw[List.length_reverse,za4]at this;omega
    simp[dateS,clkS,za4];omega
   rw[J]at u C;have g:Hid (Below wc.heap.size wc P/\UT P):=hid ⟨p,UT.stays _ _ HT.out p⟩;have hadd:=fun W=>zac S [90] (by simp;omega) W
   clear U o r B A x J p;go_wp2_with fail;refine(u.out _ (UT.stays _ _ g.out.2 ((Below.refl _ _).alloc (Nat.le_refl _) _))).mono ?_;rintro e w2 ⟨rfl,v⟩;have H:Hid (Below wc.heap.size wc w2):=hid ((g.out.1.alloc g.out.1.size _).trans (v.mono (by have:=g.out.1.size;simp;omega)));clear v;go_wp2;go_ret2;unfold zde;rw[C.out];exact⟨rfl,H.out⟩
theorem zq3 {x:Gr.Mo} (_h:MoOk x) (hr:okR x=true) (hd:x.date=true):Cal.vld x.y x.m x.d=true/\-63000000000<=secs x/\secs x<=260000000000/\-1000000<=offS x/\offS x<=1000000:=by
 unfold okR at hr;rw[hd]at hr;simp only[Bool.not_true,Bool.false_or,Bool.and_eq_true,decide_eq_true_eq]at hr;obtain⟨⟨⟨⟨⟨a,h1⟩,h2⟩,h3⟩,h4⟩,h5⟩:=hr;have hb:=Cal.zzf a;have b:-1000000<=offS x/\offS x<=1000000:=by unfold offS;split<;>omega
 refine⟨a,?_,?_,b⟩
 .unfold secs;omega
 .unfold secs;omega
def RIPost (r:Gr.Str×Nat) (w:World) (e:Ending) (w':World):Prop:=e=.returned (.tuple #[.string ⟨r.1.toArray⟩,.int .i64 (r.2:Nat)])/\Below w.heap.size w w'
theorem zyl {n _nanos:Int} {y m d:Int} (hv:Cal.vld y m d=true) (hn:Cal.num y m d=(n+62167219200) /86400-719528):∃a b c:Nat,y=a/\m=b/\d=c/\a<=999999999/\b<=999999999/\c<=999999999/\dateOf (n /86400)=(a,b,c):=by
 have h:=Cal.zpa hv;have hd:=Cal.zxv y m;refine⟨y.toNat,m.toNat,d.toNat,by omega,by omega,by omega,by omega,by omega,by omega,?_⟩;apply zij
 .rw[show((y.toNat:Nat):Int)=y from by omega,show((m.toNat:Nat):Int)=m from by omega,show((d.toNat:Nat):Int)=d from by omega];exact hv
 .rw[show((y.toNat:Nat):Int)=y from by omega,show((m.toNat:Nat):Int)=m from by omega,show((d.toNat:Nat):Int)=d from by omega,hn];omega
theorem ofshow (n:Int) (nanos:Nat) (_h0:-62167219200<=n) (_h1:n<=253402300799) (hn:nanos<=999999999) (w:World) (e:Ending) (w':World) (h:OfPost (n+62167219200) (nanos:Int) w e w'):
 ∃a b c p q r:Nat,e=.returned (.agg #[.bool true,.bool true,.bool true,.int .i64 (a:Int),.int .i64 (b:Int),.int .i64 (c:Int),.int .i64 (p:Int),.int .i64 (q:Int),.int .i64 (r:Int),.int .i64 (nanos:Int),.int .i64 0,.bool false])/\Below w.heap.size w w'/\
 (∀W,Calls prog 154 #[.agg #[.bool true,.bool true,.bool true,.int .i64 (a:Int),.int .i64 (b:Int),.int .i64 (c:Int),.int .i64 (p:Int),.int .i64 (q:Int),.int .i64 (r:Int),.int .i64 (nanos:Int),.int .i64 0,.bool false]] W fun e W'=>e=.returned (.string ⟨(momS (n /86400) (n%86400).toNat nanos).toArray⟩)/\Below W.heap.size W W'):=by
 obtain⟨y,m,d,s,f,l,j⟩:=h;obtain⟨a,b,c,rfl,rfl,rfl,k,i,o,g⟩:=zyl (_nanos:=nanos) s f;refine⟨a,b,c,(n%86400).toNat /3600,(n%86400).toNat /60%60,(n%86400).toNat%60,?_,j,fun W=>?_⟩
 .rw[l,show(n+62167219200)%86400 /3600=(((n%86400).toNat /3600:Nat):Int)from by omega,show(n+62167219200)%86400 /60%60=(((n%86400).toNat /60%60:Nat):Int)from by omega,show(n+62167219200)%86400%60=(((n%86400).toNat%60:Nat):Int)from by omega]
 .have:=zq0 a b c ((n%86400).toNat /3600) ((n%86400).toNat /60%60) ((n%86400).toNat%60) nanos 0 false k i o (by omega) (by omega) (by omega) hn W;rw[show momS (n /86400) (n%86400).toNat nanos=dateS a b c++[84]++clkS ((n%86400).toNat /3600) ((n%86400).toNat /60%60) ((n%86400).toNat%60) nanos++[90]from by unfold momS;rw[g];simp];exact this
theorem zeh (s:Gr.Str) (hl:s.length<=1073741823) (w:World):
 Calls prog 151 #[.string ⟨s.toArray⟩] w (RIPost (insP s) w):=by
 have N:=hid (fun W=>zdd s hl W);have an:Hid (insP s=insP s):=hid rfl;obtain⟨r,P⟩:=ex (insP s)
 have HR:=hid P;rw[P];clear P an;have Y:Hid (insP s=match Gr.rd s with|none=>([],3)|some x=>if x.z=0 then([],3)else if okR x=false then([],13)else if secs x< -62167219200\/253402300800<=secs x then([],13)else(momS (secs x /86400) (secs x%86400).toNat x.nanos,0)):=hid rfl;cases hrd:Gr.rd s with
 |none=>
  have Q:Hid (r=([],3)):=hid (by rw[<-HR.out,Y.out,hrd]);have G:=hid hrd;clear hrd;go_enter func151,ntmps151;go_wp2_with fail;refine(N.out _).mono ?_;rintro e B ⟨⟨t0,t1,t2,t3,t4,t5,t6,t7,t8,t9,t10,t11⟩,ok,rfl,i,k⟩;rw[G.out]at k;simp only at k;subst k;have g:=hid i;clear i;simp only[RT.v];go_wp2;go_ret2;rw[Q.out];exact⟨rfl,g.out.alloc g.out.size _⟩
 |some x=>
  have l:=zq1 hrd;have HOK:=hid l;have G:=hid hrd;have T:=zq2 l;have HZ:Hid (decide (x.z≠0)=!decide (x.z=0)):=hid (by simp);by_cases hz:x.z=0
  .have Q:Hid (r=([],3)):=hid (by rw[<-HR.out,Y.out,hrd];simp only;rw[if_pos hz]);have O:decide (x.z≠0)=false:=by simp[hz]
   have J:=hid O;clear hrd l T hz O;go_enter func151,ntmps151;go_wp2_with fail;refine(N.out _).mono ?_;rintro e B ⟨t,ok,rfl,i,k⟩;rw[G.out]at k;simp only at k;obtain⟨rfl,rfl⟩:=k;have g:=hid i;clear i;simp only[RT.v,toRT,J.out];go_wp2;go_ret2;rw[Q.out];exact⟨rfl,g.out.alloc g.out.size _⟩
  .have O:decide (x.z≠0)=true:=by simp[hz]
   have V:x.date=true/\x.time=true:=by
    rcases l.sh with h|⟨_,_,h⟩|⟨_,_,h⟩
    .exact h
    .exact absurd h hz
    .exact absurd h hz
   have J:=hid O;have F:=hid V;obtain⟨I,Z⟩:=ex (decide (23<x.zh) || decide (59<x.zm))
   obtain⟨of,S⟩:=ex (offS x)
   have D:=hid (And.intro Z S);rw[V.1,Z]at T;have K:Hid (∀W,Calls prog 153 #[.agg #[.bool true,.bool true,.bool true,.int .i64 (x.y:Int),.int .i64 (x.m:Int),.int .i64 (x.d:Int),.int .i64 (x.h:Int),.int .i64 (x.mi:Int),.int .i64 (x.c:Int),.int .i64 (x.nanos:Int),.int .i64 of,.bool I]] W fun e w'=>e=.returned (.bool (okR x))/\Below W.heap.size W w'):=hid (fun W=>by
    have:=zeg true true true (x.y:Int) (x.m:Int) (x.d:Int) (x.h:Int) (x.mi:Int) (x.c:Int) (x.nanos:Int) of I W;rwa[T]at this)
   by_cases P:okR x=false
   .have Q:Hid (r=([],13)):=hid (by rw[<-HR.out,Y.out,hrd];simp only;rw[if_neg hz,if_pos P]);rw[P]at K;clear hrd l T hz O V Z S P;go_enter func151,ntmps151;go_wp2_with fail;refine(N.out _).mono ?_;rintro e B ⟨t,ok,rfl,i,k⟩;rw[G.out]at k;simp only at k;obtain⟨rfl,rfl⟩:=k;have g:=hid i;clear i;simp only[RT.v,toRT,J.out,F.out.1,F.out.2,D.out.1,D.out.2];go_wp2_with fail;refine(K.out _).mono ?_;rintro e L ⟨rfl,j⟩;have f:Hid (Below w.heap.size w L):=hid ((g.out.alloc g.out.size _).trans (j.mono (by have:=g.out.size;simp;omega)));clear j;go_wp2;go_ret2;rw[Q.out];exact⟨rfl,f.out⟩
   .rw[Bool.not_eq_false]at P;rw[P]at K;obtain⟨hv,am,ar,ad,ac⟩:=zq3 l P V.1;have ao:=Cal.zpa hv;have aq:=Cal.zxv x.y x.m;rw[S]at ad ac;have ai:86400*Cal.num x.y x.m x.d+3600*(x.h:Int)+60*(x.mi:Int)+(x.c:Int)-of=secs x:=by unfold secs;rw[S];omega
    have aa:Hid (∀W,Calls prog 177 #[.agg #[.bool true,.bool true,.bool true,.int .i64 (x.y:Int),.int .i64 (x.m:Int),.int .i64 (x.d:Int),.int .i64 (x.h:Int),.int .i64 (x.mi:Int),.int .i64 (x.c:Int),.int .i64 (x.nanos:Int),.int .i64 of,.bool I]] W fun e w'=>e=.returned (.int .i64 (secs x))/\Below W.heap.size W w'):=hid (fun W=>by
     have h1:=l.h;have h2:=l.mi;have h3:=l.c;have:=zi1 true true true (x.y:Int) (x.m:Int) (x.d:Int) (x.h:Int) (x.mi:Int) (x.c:Int) (x.nanos:Int) of I (by omega) (by omega) (by omega) (by omega) (by omega) (by omega) (by omega) (by omega) (by omega) (by omega) (by omega) (by omega) ad ac W;rwa[ai]at this)
    have au:=l.nanos;obtain⟨n,hn⟩:=ex (secs x)
    rw[hn]at aa am ar;have HN:=hid hn;have A:Hid (r=if n< -62167219200\/253402300800<=n then([],13)else(momS (n /86400) (n%86400).toNat x.nanos,0)):=hid (by rw[<-HR.out,Y.out,hrd];simp only;rw[if_neg hz,if_neg (by rw[P];decide),hn]);have ak:Hid (∀W,-62167219200<=n->n<=253402300799->Calls prog 178 #[.int .i64 n,.int .i64 (x.nanos:Int)] W (OfPost (n+62167219200) (x.nanos:Int) W)):=hid (fun W a b=>zwu n (n+62167219200) (x.nanos:Int) (by omega) (by omega) (by omega) W);clear hrd l T hz O V Z S P hv ao aq ad ac ai hn Y;by_cases h1:n< -62167219200
    .have Q:Hid (r=([],13)):=hid (by rw[A.out,if_pos (.inl h1)]);clear A;go_enter func151,ntmps151;go_wp2_with fail;refine(N.out _).mono ?_;rintro e B ⟨t,ok,rfl,i,k⟩;rw[G.out]at k;simp only at k;obtain⟨rfl,rfl⟩:=k;have g:=hid i;clear i;simp only[RT.v,toRT,J.out,F.out.1,F.out.2,D.out.1,D.out.2];go_wp2_with fail;refine(K.out _).mono ?_;rintro e L ⟨rfl,j⟩;have f:Hid (Blk L B.heap.size 162 (T12 true true true (x.y:Int) (x.m:Int) (x.d:Int) (x.h:Int) (x.mi:Int) (x.c:Int) (x.nanos:Int) of I)/\Below w.heap.size w L/\B.heap.size<L.heap.size):=hid (by
      have E:=Blk.new B 162 (T12 true true true (x.y:Int) (x.m:Int) (x.d:Int) (x.h:Int) (x.mi:Int) (x.c:Int) (x.nanos:Int) of I);exact⟨E.below j E.lt,(g.out.alloc g.out.size _).trans (j.mono (by have:=g.out.size;simp;omega)),by have:=j.size;simp at this;omega⟩)
     clear j;obtain⟨g4,C⟩:=ex B.heap.size
     rw[C]at f ⊢;clear C;obtain⟨q0,q1,q2,q3,q4,q5,q6,q7,q8,q9,U,X⟩:=zag f.out.1;go_wp2_with fail;refine(aa.out _).mono ?_;rintro e w3 ⟨rfl,o⟩;have H:Hid (Blk w3 g4 162 (T12 true true true (x.y:Int) (x.m:Int) (x.d:Int) (x.h:Int) (x.mi:Int) (x.c:Int) (x.nanos:Int) of I)/\Below w.heap.size w w3):=hid ⟨f.out.1.below o f.out.1.lt,f.out.2.1.trans (o.mono f.out.2.1.size)⟩;clear o q0 q1 q2 q3 q4 q5 q6 q7 q8 q9 U X;go_wp2;go_ret2;rw[Q.out];exact⟨rfl,H.out.2⟩
    .by_cases h2:253402300799<n
     .have Q:Hid (r=([],13)):=hid (by rw[A.out,if_pos (.inr (by omega))]);clear A;go_enter func151,ntmps151;go_wp2_with fail;refine(N.out _).mono ?_;rintro e B ⟨t,ok,rfl,i,k⟩;rw[G.out]at k;simp only at k;obtain⟨rfl,rfl⟩:=k;have g:=hid i;clear i;simp only[RT.v,toRT,J.out,F.out.1,F.out.2,D.out.1,D.out.2];go_wp2_with fail;refine(K.out _).mono ?_;rintro e L ⟨rfl,j⟩;have f:Hid (Blk L B.heap.size 162 (T12 true true true (x.y:Int) (x.m:Int) (x.d:Int) (x.h:Int) (x.mi:Int) (x.c:Int) (x.nanos:Int) of I)/\Below w.heap.size w L/\B.heap.size<L.heap.size):=hid (by
       have E:=Blk.new B 162 (T12 true true true (x.y:Int) (x.m:Int) (x.d:Int) (x.h:Int) (x.mi:Int) (x.c:Int) (x.nanos:Int) of I);exact⟨E.below j E.lt,(g.out.alloc g.out.size _).trans (j.mono (by have:=g.out.size;simp;omega)),by have:=j.size;simp at this;omega⟩)
      clear j;obtain⟨g4,C⟩:=ex B.heap.size
      rw[C]at f ⊢;clear C;obtain⟨q0,q1,q2,q3,q4,q5,q6,q7,q8,q9,U,X⟩:=zag f.out.1;go_wp2_with fail;refine(aa.out _).mono ?_;rintro e w3 ⟨rfl,o⟩;have H:Hid (Blk w3 g4 162 (T12 true true true (x.y:Int) (x.m:Int) (x.d:Int) (x.h:Int) (x.mi:Int) (x.c:Int) (x.nanos:Int) of I)/\Below w.heap.size w w3):=hid ⟨f.out.1.below o f.out.1.lt,f.out.2.1.trans (o.mono f.out.2.1.size)⟩;clear o q0 q1 q2 q3 q4 q5 q6 q7 q8 q9 U X;go_wp2;go_ret2;rw[Q.out];exact⟨rfl,H.out.2⟩
     .have Q:Hid (r=(momS (n /86400) (n%86400).toNat x.nanos,0)):=hid (by rw[A.out,if_neg (by omega)]);have aj:=hid (fun W=>ak.out W (by omega) (by omega));have ag:=hid (fun W e W' h=>ofshow n x.nanos (by omega) (by omega) au W e W' h);obtain⟨M,hM⟩:=ex (momS (n /86400) (n%86400).toNat x.nanos)
      rw[hM]at Q ag;clear hM;clear A ak;go_enter func151,ntmps151;go_wp2_with fail;refine(N.out _).mono ?_;rintro e B ⟨t,ok,rfl,i,k⟩;rw[G.out]at k;simp only at k;obtain⟨rfl,rfl⟩:=k;have g:=hid i;clear i;simp only[RT.v,toRT,J.out,F.out.1,F.out.2,D.out.1,D.out.2];go_wp2_with fail;refine(K.out _).mono ?_;rintro e L ⟨rfl,j⟩;have f:Hid (Blk L B.heap.size 162 (T12 true true true (x.y:Int) (x.m:Int) (x.d:Int) (x.h:Int) (x.mi:Int) (x.c:Int) (x.nanos:Int) of I)/\Below w.heap.size w L/\B.heap.size<L.heap.size):=hid (by
       have E:=Blk.new B 162 (T12 true true true (x.y:Int) (x.m:Int) (x.d:Int) (x.h:Int) (x.mi:Int) (x.c:Int) (x.nanos:Int) of I);exact⟨E.below j E.lt,(g.out.alloc g.out.size _).trans (j.mono (by have:=g.out.size;simp;omega)),by have:=j.size;simp at this;omega⟩)
      clear j;obtain⟨g4,C⟩:=ex B.heap.size
      rw[C]at f ⊢;clear C;obtain⟨q0,q1,q2,q3,q4,q5,q6,q7,q8,q9,U,X⟩:=zag f.out.1;go_wp2_with fail;refine(aa.out _).mono ?_;rintro e w3 ⟨rfl,o⟩;have H:Hid (Blk w3 g4 162 (T12 true true true (x.y:Int) (x.m:Int) (x.d:Int) (x.h:Int) (x.mi:Int) (x.c:Int) (x.nanos:Int) of I)/\Below w.heap.size w w3):=hid ⟨f.out.1.below o f.out.1.lt,f.out.2.1.trans (o.mono f.out.2.1.size)⟩;clear o q0 q1 q2 q3 q4 q5 q6 q7 q8 q9 U X;have q9:w3.cell? ⟨g4,9,none⟩=some (.int .i64 (x.nanos:Int)):=H.out.1.cell 9;go_wp2_with fail;refine(aj.out _).mono ?_;intro e w4 ab;obtain⟨a,b,c,p,q,u,rfl,ah,R⟩:=ag.out _ _ _ ab;have af:Hid (Below w.heap.size w w4):=hid (H.out.2.trans (ah.mono H.out.2.size));have al:=hid R;clear ab ah R q9;go_wp2_with fail;refine(al.out _).mono ?_;rintro e w5 ⟨rfl,ae⟩;have ap:Hid (Below w.heap.size w w5):=hid (af.out.trans (ae.mono af.out.size));clear ae;go_wp2;go_ret2;rw[Q.out];exact⟨rfl,ap.out⟩
theorem zww {x:Gr.Mo} (h:MoOk x) (_hz:x.z=0) (of:Int) (lt:Bool) (W:World):
 Calls prog 154 #[.agg #[.bool x.date,.bool x.time,.bool false,.int .i64 (x.y:Int),.int .i64 (x.m:Int),.int .i64 (x.d:Int),.int .i64 (x.h:Int),.int .i64 (x.mi:Int),.int .i64 (x.c:Int),.int .i64 (x.nanos:Int),.int .i64 of,.bool lt]] W fun e W'=>e=.returned (.string ⟨(locS x).toArray⟩)/\Below W.heap.size W W':=by
 have a:=h.y;have b:=h.m;have c:=h.d;have d:=h.h;have e:=h.mi;have f:=h.c;have g:=h.nanos;rcases h.sh with⟨i,j⟩|⟨i,j,_⟩|⟨i,j,_⟩
 .have:=zqz x.y x.m x.d x.h x.mi x.c x.nanos of lt (by omega) (by omega) (by omega) (by omega) (by omega) (by omega) g W;unfold locS;rw[i,j];simpa using this
 .have:=zqx x.y x.m x.d x.h x.mi x.c x.nanos of lt (by omega) (by omega) (by omega) (by omega) (by omega) (by omega) g W;unfold locS;rw[i,j];simpa using this
 .have:=zqy x.y x.m x.d x.h x.mi x.c x.nanos of lt (by omega) (by omega) (by omega) (by omega) (by omega) (by omega) g W;unfold locS;rw[i,j];simpa using this
theorem zf0 (s:Gr.Str) (hl:s.length<=1073741823) (w:World):
 Calls prog 121 #[.string ⟨s.toArray⟩] w (RIPost (locP s) w):=by
 have q:=hid (fun W=>zdd s hl W);obtain⟨r,V⟩:=ex (locP s)
 have HR:=hid V;rw[V];clear V;have l:Hid (locP s=match Gr.rd s with|none=>([],3)|some x=>if x.z≠0 then([],3)else if okR x=false then([],13)else(locS x,0)):=hid rfl;cases hrd:Gr.rd s with
 |none=>
  have I:Hid (r=([],3)):=hid (by rw[<-HR.out,l.out,hrd]);have k:=hid hrd;clear hrd;go_enter func121,ntmps121;go_wp2_with fail;refine(q.out _).mono ?_;rintro e J ⟨⟨t0,t1,t2,t3,t4,t5,t6,t7,t8,t9,t10,t11⟩,Z,rfl,b,g⟩;rw[k.out]at g;simp only at g;subst g;have a:=hid b;clear b;simp only[RT.v];go_wp2;go_ret2;rw[I.out];exact⟨rfl,a.out.alloc a.out.size _⟩
 |some x=>
  have o:=zq1 hrd;have k:=hid hrd;have B:=zq2 o;by_cases hz:x.z=0
  .have n:decide (x.z≠0)=false:=by simp[hz]
   have C:=hid n;obtain⟨K,H⟩:=ex (decide (23<x.zh) || decide (59<x.zm))
   obtain⟨of,O⟩:=ex (offS x)
   obtain⟨R,p⟩:=ex x.date
   obtain⟨Q,E⟩:=ex x.time
   have A:=hid (And.intro H O);have u:=hid (And.intro p E);rw[p,H]at B;have F:Hid (∀W,Calls prog 153 #[.agg #[.bool R,.bool Q,.bool false,.int .i64 (x.y:Int),.int .i64 (x.m:Int),.int .i64 (x.d:Int),.int .i64 (x.h:Int),.int .i64 (x.mi:Int),.int .i64 (x.c:Int),.int .i64 (x.nanos:Int),.int .i64 of,.bool K]] W fun e w'=>e=.returned (.bool (okR x))/\Below W.heap.size W w'):=hid (fun W=>by
    have:=zeg R Q false (x.y:Int) (x.m:Int) (x.d:Int) (x.h:Int) (x.mi:Int) (x.c:Int) (x.nanos:Int) of K W;rwa[B]at this)
   have G:=hid (fun W=>zww o hz of K W);rw[p,E]at G;have f:Hid (r=if okR x=false then([],13)else(locS x,0)):=hid (by rw[<-HR.out,l.out,hrd];simp only;rw[if_neg (by simp[hz])]);obtain⟨M,hM⟩:=ex (locS x)
   rw[hM]at f G;obtain⟨U,D⟩:=ex (okR x)
   rw[D]at f F;clear hrd o B hz n p H O E hM D l;cases U with
   |false=>
    have I:Hid (r=([],13)):=hid (by rw[f.out,if_pos rfl]);clear f;go_enter func121,ntmps121;go_wp2_with fail;refine(q.out _).mono ?_;rintro e J ⟨t,Z,rfl,b,g⟩;rw[k.out]at g;simp only at g;obtain⟨rfl,rfl⟩:=g;have a:=hid b;clear b;simp only[RT.v,toRT,C.out,u.out.1,u.out.2,A.out.1,A.out.2];go_wp2_with fail;refine(F.out _).mono ?_;rintro e S ⟨rfl,j⟩;have i:Hid (Below w.heap.size w S):=hid ((a.out.alloc a.out.size _).trans (j.mono (by have:=a.out.size;simp;omega)));clear j;go_wp2;go_ret2;rw[I.out];exact⟨rfl,i.out⟩
   |true=>
    have I:Hid (r=(M,0)):=hid (by rw[f.out,if_neg (by decide)]);clear f;go_enter func121,ntmps121;go_wp2_with fail;refine(q.out _).mono ?_;rintro e J ⟨t,Z,rfl,b,g⟩;rw[k.out]at g;simp only at g;obtain⟨rfl,rfl⟩:=g;have a:=hid b;clear b;simp only[RT.v,toRT,C.out,u.out.1,u.out.2,A.out.1,A.out.2];go_wp2_with fail;refine(F.out _).mono ?_;rintro e S ⟨rfl,j⟩;have i:Hid (Blk S J.heap.size 162 (T12 R Q false (x.y:Int) (x.m:Int) (x.d:Int) (x.h:Int) (x.mi:Int) (x.c:Int) (x.nanos:Int) of K)/\Below w.heap.size w S):=hid (by
     have L:=Blk.new J 162 (T12 R Q false (x.y:Int) (x.m:Int) (x.d:Int) (x.h:Int) (x.mi:Int) (x.c:Int) (x.nanos:Int) of K);exact⟨L.below j L.lt,(a.out.alloc a.out.size _).trans (j.mono (by have:=a.out.size;simp;omega))⟩)
    clear j;obtain⟨g4,N⟩:=ex J.heap.size
    rw[N]at i ⊢;clear N;obtain⟨q0,q1,q2,q3,q4,q5,q6,q7,q8,q9,T,X⟩:=zag i.out.1;go_wp2_with fail;refine(G.out _).mono ?_;rintro e w3 ⟨rfl,P⟩;have Y:Hid (Below w.heap.size w w3):=hid (i.out.2.trans (P.mono i.out.2.size));clear P q0 q1 q2 q3 q4 q5 q6 q7 q8 q9 T X;go_wp2;go_ret2;rw[I.out];exact⟨rfl,Y.out⟩
  .have I:Hid (r=([],3)):=hid (by rw[<-HR.out,l.out,hrd];simp only;rw[if_pos hz]);have n:decide (x.z≠0)=true:=by simp[hz]
   have C:=hid n;clear hrd o B hz n l;go_enter func121,ntmps121;go_wp2_with fail;refine(q.out _).mono ?_;rintro e J ⟨t,Z,rfl,b,g⟩;rw[k.out]at g;simp only at g;obtain⟨rfl,rfl⟩:=g;have a:=hid b;clear b;simp only[RT.v,toRT,C.out];go_wp2;go_ret2;rw[I.out];exact⟨rfl,a.out.alloc a.out.size _⟩
theorem znb (s:Gr.Str) (hl:s.length<=1073741823) (w:World):
 Calls prog 91 #[.string ⟨s.toArray⟩] w fun e w'=>e=.returned (.bool (locB s))/\Below w.heap.size w w':=by
 have d:=hid (zf0 s hl w);have f:Hid (locB s=decide ((locP s).2=0/\(locP s).1=s)):=hid rfl;obtain⟨r,q⟩:=ex (locB s)
 rw[q]at f ⊢;obtain⟨⟨l,k⟩,m⟩:∃p,locP s=p:=⟨_,rfl⟩
 rw[m]at d f;obtain⟨h,c⟩:∃h:Int,(k:Int)=h:=⟨_,rfl⟩
 unfold RIPost at d;simp only[c]at d f;have o:=hid c;clear q m c;by_cases h0:h=0
 .subst h0;have i:((0:Int)==0)=true:=rfl;by_cases hs:l=s
  .have j:(l==s)=true:=by rw[beq_iff_eq];exact hs
   have g:Hid (r=true):=hid (by rw[f.out];simp[hs];have:=o.out;omega);clear hs;go_enter func91,ntmps91;go_wp2_with fail;refine d.out.mono ?_;rintro e n ⟨rfl,a⟩;have b:=hid a;clear a;go_wp2;go_ret;rw[g.out];exact⟨rfl,b.out⟩
  .have j:(l==s)=false:=by rw[beq_eq_false_iff_ne];exact hs
   have g:Hid (r=false):=hid (by rw[f.out];simp[hs]);clear hs;go_enter func91,ntmps91;go_wp2_with fail;refine d.out.mono ?_;rintro e n ⟨rfl,a⟩;have b:=hid a;clear a;go_wp2;go_ret;rw[g.out];exact⟨rfl,b.out⟩
 .have i:(h==0)=false:=by simpa using h0
  have g:Hid (r=false):=hid (by rw[f.out];simp;intro e;exact absurd (by have:=o.out;omega) h0);go_enter func91,ntmps91;go_wp2_with fail;refine d.out.mono ?_;rintro e n ⟨rfl,a⟩;have b:=hid a;clear a;go_wp2;go_ret;rw[g.out];exact⟨rfl,b.out⟩
def zdr (b:Bool) (w:World) (e:Ending) (w':World):Prop:=∃t:RT,e=.returned (.tuple #[t.v,.bool b])/\Below w.heap.size w w'
theorem znc (s:Gr.Str) (hl:s.length<=1073741823) (w:World):
 Calls prog 120 #[.string ⟨s.toArray⟩] w (zdr (insB s) w):=by
 have S:=hid (fun W=>zeh s hl W);have Z:=hid (fun W=>zdd s hl W);have R:Hid (insB s=decide ((insP s).2=0/\(insP s).1=s)):=hid rfl;obtain⟨r,hr⟩:=ex (insB s)
 rw[hr]at R ⊢;obtain⟨⟨l,k⟩,hp⟩:∃p,insP s=p:=⟨_,rfl⟩
 rw[hp]at S R;obtain⟨y,E⟩:∃y:Int,(k:Int)=y:=⟨_,rfl⟩
 unfold RIPost at S;simp only[E]at S R;have HK:=hid E;clear hr hp E;have hc:y≠0\/(y=0/\l≠s)\/(y=0/\l=s):=by
  by_cases h0:y=0
  .by_cases hs:l=s
   .exact .inr (.inr ⟨h0,hs⟩)
   .exact .inr (.inl ⟨h0,hs⟩)
  .exact .inl h0
 rcases hc with h0|⟨rfl,hs⟩|⟨rfl,hs⟩
 .have Y:(y==0)=false:=by simpa using h0
  have h0c:(y != 0)=true:=by rw[bne,Y];rfl
  have T:Hid (r=false):=hid (by rw[R.out];simp;intro e;exact absurd (by have:=HK.out;omega) h0);go_enter func120,ntmps120;go_upto_region 1 with fail;obtain⟨a,b⟩:=ex w.heap.size
  obtain⟨n,f⟩:∃n,n=w.alloc (.cells #[.bool false,.bool false,.bool false,.int .i64 0,.int .i64 0,.int .i64 0,.int .i64 0,.int .i64 0,.int .i64 0,.int .i64 0,.int .i64 0,.bool false] 162):=⟨_,rfl⟩
  have c:Hid (Blk n a 162 (T12 false false false 0 0 0 0 0 0 0 0 false)/\Below a w n):=hid (by rw[f,<-b];exact⟨Blk.new _ _ _,(Below.refl _ _).alloc (Nat.le_refl _) _⟩);have o:=hid b;(try rw[<-f]);(try rw[b]);clear f b;go_wp2_with fail;refine(S.out _).mono ?_;rintro e h ⟨rfl,g⟩;have d:Hid (Blk h a 162 (T12 false false false 0 0 0 0 0 0 0 0 false)/\Below a w h):=hid ⟨c.out.1.below g c.out.1.lt,c.out.2.trans (g.mono (Nat.le_of_lt c.out.1.lt))⟩;clear g;have xb:∀j,h.cell? ⟨a,j,none⟩=(#[.bool false,.bool false,.bool false,.int .i64 0,.int .i64 0,.int .i64 0,.int .i64 0,.int .i64 0,.int .i64 0,.int .i64 0,.int .i64 0,.bool false]:Array Value)[j]? :=fun j=>d.out.1.cell j
  have xf:∀j,h.frozen? ⟨a,j,none⟩=false:=d.out.1.frozen;go_wp2_with fail;have q:Blk ((((((((((((h.setCell ⟨a,0,none⟩ (.bool false)).setCell ⟨a,1,none⟩ (.bool false)).setCell ⟨a,2,none⟩ (.bool false)).setCell ⟨a,3,none⟩ (.int .i64 0)).setCell ⟨a,4,none⟩ (.int .i64 0)).setCell ⟨a,5,none⟩ (.int .i64 0)).setCell ⟨a,6,none⟩ (.int .i64 0)).setCell ⟨a,7,none⟩ (.int .i64 0)).setCell ⟨a,8,none⟩ (.int .i64 0)).setCell ⟨a,9,none⟩ (.int .i64 0)).setCell ⟨a,10,none⟩ (.int .i64 0)).setCell ⟨a,11,none⟩ (.bool false)) a 162 (T12 false false false 0 0 0 0 0 0 0 0 false):=zbb d.out.1;have t:Below a w ((((((((((((h.setCell ⟨a,0,none⟩ (.bool false)).setCell ⟨a,1,none⟩ (.bool false)).setCell ⟨a,2,none⟩ (.bool false)).setCell ⟨a,3,none⟩ (.int .i64 0)).setCell ⟨a,4,none⟩ (.int .i64 0)).setCell ⟨a,5,none⟩ (.int .i64 0)).setCell ⟨a,6,none⟩ (.int .i64 0)).setCell ⟨a,7,none⟩ (.int .i64 0)).setCell ⟨a,8,none⟩ (.int .i64 0)).setCell ⟨a,9,none⟩ (.int .i64 0)).setCell ⟨a,10,none⟩ (.int .i64 0)).setCell ⟨a,11,none⟩ (.bool false)):=zcd d.out.2 (Nat.le_refl a);obtain⟨e0,e1,e2,e3,e4,e5,e6,e7,e8,e9,U,V⟩:=zag q;refine bodyPost_ret (v:=.tuple #[.agg #[.bool false,.bool false,.bool false,.int .i64 0,.int .i64 0,.int .i64 0,.int .i64 0,.int .i64 0,.int .i64 0,.int .i64 0,.int .i64 0,.bool false],.bool false]) (by rw[results_cell_tmp rfl];go_simp) rfl ?_;unfold zdr;rw[o.out,T.out];exact⟨RT.z,rfl,t⟩
 .have M:(l==s)=false:=by rw[beq_eq_false_iff_ne];exact hs
  have aa:(l != s)=true:=by rw[bne,M];rfl
  have T:Hid (r=false):=hid (by rw[R.out];simp[hs]);clear hs;go_enter func120,ntmps120;go_upto_region 1 with fail;obtain⟨a,b⟩:=ex w.heap.size
  obtain⟨n,f⟩:∃n,n=w.alloc (.cells #[.bool false,.bool false,.bool false,.int .i64 0,.int .i64 0,.int .i64 0,.int .i64 0,.int .i64 0,.int .i64 0,.int .i64 0,.int .i64 0,.bool false] 162):=⟨_,rfl⟩
  have c:Hid (Blk n a 162 (T12 false false false 0 0 0 0 0 0 0 0 false)/\Below a w n):=hid (by rw[f,<-b];exact⟨Blk.new _ _ _,(Below.refl _ _).alloc (Nat.le_refl _) _⟩);have o:=hid b;(try rw[<-f]);(try rw[b]);clear f b;go_wp2_with fail;refine(S.out _).mono ?_;rintro e h ⟨rfl,g⟩;have d:Hid (Blk h a 162 (T12 false false false 0 0 0 0 0 0 0 0 false)/\Below a w h):=hid ⟨c.out.1.below g c.out.1.lt,c.out.2.trans (g.mono (Nat.le_of_lt c.out.1.lt))⟩;clear g;have xb:∀j,h.cell? ⟨a,j,none⟩=(#[.bool false,.bool false,.bool false,.int .i64 0,.int .i64 0,.int .i64 0,.int .i64 0,.int .i64 0,.int .i64 0,.int .i64 0,.int .i64 0,.bool false]:Array Value)[j]? :=fun j=>d.out.1.cell j
  have xf:∀j,h.frozen? ⟨a,j,none⟩=false:=d.out.1.frozen;go_wp2_with fail;have q:Blk ((((((((((((h.setCell ⟨a,0,none⟩ (.bool false)).setCell ⟨a,1,none⟩ (.bool false)).setCell ⟨a,2,none⟩ (.bool false)).setCell ⟨a,3,none⟩ (.int .i64 0)).setCell ⟨a,4,none⟩ (.int .i64 0)).setCell ⟨a,5,none⟩ (.int .i64 0)).setCell ⟨a,6,none⟩ (.int .i64 0)).setCell ⟨a,7,none⟩ (.int .i64 0)).setCell ⟨a,8,none⟩ (.int .i64 0)).setCell ⟨a,9,none⟩ (.int .i64 0)).setCell ⟨a,10,none⟩ (.int .i64 0)).setCell ⟨a,11,none⟩ (.bool false)) a 162 (T12 false false false 0 0 0 0 0 0 0 0 false):=zbb d.out.1;have t:Below a w ((((((((((((h.setCell ⟨a,0,none⟩ (.bool false)).setCell ⟨a,1,none⟩ (.bool false)).setCell ⟨a,2,none⟩ (.bool false)).setCell ⟨a,3,none⟩ (.int .i64 0)).setCell ⟨a,4,none⟩ (.int .i64 0)).setCell ⟨a,5,none⟩ (.int .i64 0)).setCell ⟨a,6,none⟩ (.int .i64 0)).setCell ⟨a,7,none⟩ (.int .i64 0)).setCell ⟨a,8,none⟩ (.int .i64 0)).setCell ⟨a,9,none⟩ (.int .i64 0)).setCell ⟨a,10,none⟩ (.int .i64 0)).setCell ⟨a,11,none⟩ (.bool false)):=zcd d.out.2 (Nat.le_refl a);obtain⟨e0,e1,e2,e3,e4,e5,e6,e7,e8,e9,U,V⟩:=zag q;refine bodyPost_ret (v:=.tuple #[.agg #[.bool false,.bool false,.bool false,.int .i64 0,.int .i64 0,.int .i64 0,.int .i64 0,.int .i64 0,.int .i64 0,.int .i64 0,.int .i64 0,.bool false],.bool false]) (by rw[results_cell_tmp rfl];go_simp) rfl ?_;unfold zdr;rw[o.out,T.out];exact⟨RT.z,rfl,t⟩
 .have M:(l==s)=true:=by rw[beq_iff_eq];exact hs
  have aa:(l != s)=false:=by rw[bne,M];rfl
  have T:Hid (r=true):=hid (by rw[R.out];simp[hs];have:=HK.out;omega);clear hs;go_enter func120,ntmps120;go_upto_region 1 with fail;obtain⟨a,b⟩:=ex w.heap.size
  obtain⟨n,f⟩:∃n,n=w.alloc (.cells #[.bool false,.bool false,.bool false,.int .i64 0,.int .i64 0,.int .i64 0,.int .i64 0,.int .i64 0,.int .i64 0,.int .i64 0,.int .i64 0,.bool false] 162):=⟨_,rfl⟩
  have c:Hid (Blk n a 162 (T12 false false false 0 0 0 0 0 0 0 0 false)/\Below a w n):=hid (by rw[f,<-b];exact⟨Blk.new _ _ _,(Below.refl _ _).alloc (Nat.le_refl _) _⟩);have o:=hid b;(try rw[<-f]);(try rw[b]);clear f b;go_wp2_with fail;refine(S.out _).mono ?_;rintro e h ⟨rfl,g⟩;have d:Hid (Blk h a 162 (T12 false false false 0 0 0 0 0 0 0 0 false)/\Below a w h):=hid ⟨c.out.1.below g c.out.1.lt,c.out.2.trans (g.mono (Nat.le_of_lt c.out.1.lt))⟩;clear g;go_wp2_with fail;refine(Z.out _).mono ?_;rintro e X ⟨⟨D,C,G,B,N,P,I,A,Q,H,m,i⟩,ok,rfl,F,_⟩;have O:Hid (Blk X a 162 (T12 false false false 0 0 0 0 0 0 0 0 false)/\Below a w X):=hid ⟨d.out.1.below F d.out.1.lt,d.out.2.trans (F.mono (Nat.le_of_lt d.out.1.lt))⟩;clear F;simp only[RT.v];go_upto_region 5 with fail;obtain⟨g6,K⟩:=ex X.heap.size
  obtain⟨x,L⟩:=ex (X.alloc (.cells #[.bool D,.bool C,.bool G,.int .i64 B,.int .i64 N,.int .i64 P,.int .i64 I,.int .i64 A,.int .i64 Q,.int .i64 H,.int .i64 m,.bool i] 162))
  have J:Hid (Blk x a 162 (T12 false false false 0 0 0 0 0 0 0 0 false)/\Below a w x/\Blk x g6 162 (T12 D C G B N P I A Q H m i)):=hid (by rw[<-L,<-K];exact⟨O.out.1.alloc _,O.out.2.alloc (Nat.le_of_lt O.out.1.lt) _,Blk.new _ _ _⟩);(try rw[L]);(try rw[K]);clear L K;obtain⟨q0,q1,q2,q3,q4,q5,q6,q7,q8,q9,q10,q11⟩:=zag J.out.2.2;have u:Hid (Blk x a 162 (T12 false false false 0 0 0 0 0 0 0 0 false)/\Below a w x):=hid ⟨J.out.1,J.out.2.1⟩;have xb:∀j,x.cell? ⟨a,j,none⟩=(#[.bool false,.bool false,.bool false,.int .i64 0,.int .i64 0,.int .i64 0,.int .i64 0,.int .i64 0,.int .i64 0,.int .i64 0,.int .i64 0,.bool false]:Array Value)[j]? :=fun j=>u.out.1.cell j
  have xf:∀j,x.frozen? ⟨a,j,none⟩=false:=u.out.1.frozen;go_wp2_with fail;have q:Blk ((((((((((((x.setCell ⟨a,0,none⟩ (.bool D)).setCell ⟨a,1,none⟩ (.bool C)).setCell ⟨a,2,none⟩ (.bool G)).setCell ⟨a,3,none⟩ (.int .i64 B)).setCell ⟨a,4,none⟩ (.int .i64 N)).setCell ⟨a,5,none⟩ (.int .i64 P)).setCell ⟨a,6,none⟩ (.int .i64 I)).setCell ⟨a,7,none⟩ (.int .i64 A)).setCell ⟨a,8,none⟩ (.int .i64 Q)).setCell ⟨a,9,none⟩ (.int .i64 H)).setCell ⟨a,10,none⟩ (.int .i64 m)).setCell ⟨a,11,none⟩ (.bool i)) a 162 (T12 D C G B N P I A Q H m i):=zbb u.out.1;have t:Below a w ((((((((((((x.setCell ⟨a,0,none⟩ (.bool D)).setCell ⟨a,1,none⟩ (.bool C)).setCell ⟨a,2,none⟩ (.bool G)).setCell ⟨a,3,none⟩ (.int .i64 B)).setCell ⟨a,4,none⟩ (.int .i64 N)).setCell ⟨a,5,none⟩ (.int .i64 P)).setCell ⟨a,6,none⟩ (.int .i64 I)).setCell ⟨a,7,none⟩ (.int .i64 A)).setCell ⟨a,8,none⟩ (.int .i64 Q)).setCell ⟨a,9,none⟩ (.int .i64 H)).setCell ⟨a,10,none⟩ (.int .i64 m)).setCell ⟨a,11,none⟩ (.bool i)):=zcd u.out.2 (Nat.le_refl a);obtain⟨e0,e1,e2,e3,e4,e5,e6,e7,e8,e9,U,V⟩:=zag q;refine bodyPost_ret (v:=.tuple #[.agg #[.bool D,.bool C,.bool G,.int .i64 B,.int .i64 N,.int .i64 P,.int .i64 I,.int .i64 A,.int .i64 Q,.int .i64 H,.int .i64 m,.bool i],.bool true]) (by rw[results_cell_tmp rfl];go_simp) rfl ?_;unfold zdr;rw[o.out,T.out];exact⟨⟨D,C,G,B,N,P,I,A,Q,H,m,i⟩,rfl,t⟩
theorem zi2 (s:Gr.Str) (hl:s.length<=1073741823) (w:World):
 Calls prog 90 #[.string ⟨s.toArray⟩] w fun e w'=>e=.returned (.bool (insB s))/\Below w.heap.size w w':=by
 have c:=hid (znc s hl w);obtain⟨r,d⟩:=ex (insB s)
 rw[d]at c ⊢;clear d;go_enter func90,ntmps90;go_wp2_with fail;refine c.out.mono ?_;rintro e w1 ⟨⟨t0,t1,t2,t3,t4,t5,t6,t7,t8,t9,t10,t11⟩,rfl,a⟩;have b:=hid a;clear a;simp only[RT.v];go_wp2;go_ret;exact⟨rfl,b.out.alloc b.out.size _⟩
end Go.Proofs.YtpjmhafmeieloaaGreatDoor

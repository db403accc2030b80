import Derived.Test.YtoigpackhninoaaGreatDoorGrInsP3F
import Derived.Test.YtoigpackhninoaaGreatDoorZ22
import Derived.Test.YtoigpackhninoaaGreatDoorGrInsR10
namespace Go.Proofs.YtoigpackhninoaaGreatDoor
namespace Gr
def ltS:Str->Str->Bool
 |_,[]=>false
 | [],_::_=>true
 |a::l,b::m=>decide (a.toNat<b.toNat) || (a==b && ltS l m)
def insR (t:Str):List Str->List Str
 | []=>[t]
 |y::r=>if ltS t y=true then y::insR t r else t::y::r
def insL (l:List Str) (t:Str):List Str:=(insR t l.reverse).reverse
def sortS (l:List Str):List Str:=l.foldl insL []
def printF (ns:List Nd):Nat->Nat->Str
 | 0,_=>[]
 |f+1,i=>match ns[i]? with
  |none=>[]
  |some x=>
   let es:=(List.range x.items.length).map (fun k=>(if x.kind=10 then printF ns f (x.keys.getD k 0)else[])++printF ns f (x.items.getD k 0))
   UInt8.ofNat (97+x.kind.toNat)::(Lib.decDigits x.text.length++58::(x.text++(Lib.decDigits x.items.length++40::((if x.kind=10/\x.ord=false then sortS es else es).flatten++41::(if x.ord=true then[33]else[])))))
theorem zii (t:Str) (l:List Str):(insR t l).Perm (t::l):=by
 induction l with
 |nil=>exact .refl _
 |cons y r ih=>
  unfold insR;split
  ·grind
  ·exact .refl _
theorem zql (l:List Str) (t:Str):(insL l t).Perm (t::l):=by
 unfold insL;exact(List.reverse_perm _).trans ((zii t _).trans ((List.reverse_perm l).cons t))
theorem zij (l:List Str):∀a,(l.foldl insL a).Perm (a++l):=by
 induction l with
 |nil=>intro a;simp
 |cons t l ih=>
  intro a;rw[List.foldl_cons];exact(ih _).trans (((zql a t).append_right l).trans (by simpa using(List.perm_middle (a:=t) (l₁:=a) (l₂:=l)).symm))
theorem za5 (l:List Str):(sortS l).Perm l:=by unfold sortS;simpa using zij l []
theorem zmz (a:Str):ltS a a=false:=by
 induction a with
 |nil=>rfl
 |cons a l ih=>simp[ltS,ih]
theorem zik {a b c:Str} (h1:ltS a b=true) (h2:ltS b c=true):ltS a c=true:=by
 induction a generalizing b c with
 |nil=>cases b<;>cases c<;>simp_all [ltS]
 |cons x a ih=>
  cases b with
  |nil=>simp[ltS]at h1
  |cons y b=>
   cases c with
   |nil=>simp[ltS]at h2
   |cons z c=>
    simp only[ltS,Bool.or_eq_true,decide_eq_true_eq,Bool.and_eq_true,beq_iff_eq]at h1 h2 ⊢;rcases h1 with h1|⟨rfl,h1⟩
    ·grind
    ·grind
theorem zil {a b:Str} (h1:ltS a b=false) (h2:ltS b a=false):a=b:=by
 induction a generalizing b with
 |nil=>cases b with
  |nil=>rfl
  |cons=>simp[ltS]at h1
 |cons x a ih=>
  cases b with
  |nil=>simp[ltS]at h2
  |cons y b=>
   simp only[ltS,Bool.or_eq_false_iff,decide_eq_false_iff_not,Bool.and_eq_false_iff]at h1 h2;have:x=y:=by apply UInt8.toNat_inj.1;omega
   subst this;have c:ltS a b=false:=by
    rcases h1.2 with h|h
    ·simp at h
    ·exact h
   have d:ltS b a=false:=by
    rcases h2.2 with h|h
    ·simp at h
    ·exact h
   rw[ih c d]
def Desc (l:List Str):Prop:=l.Pairwise (fun a b=>ltS a b=false)
theorem zqm (t:Str) (l:List Str) (h:Desc l):Desc (insR t l):=by
 induction l with
 |nil=>simp[insR,Desc]
 |cons y r ih=>
  unfold Desc at h ih ⊢;rw[List.pairwise_cons]at h;unfold insR;split
  ·rename_i hlt;rw[List.pairwise_cons];refine⟨fun z b=>?_,ih h.2⟩;have:=(zii t r).mem_iff.1 b;rcases List.mem_cons.1 this with rfl|h3
   ·cases hc:ltS y z with
    |false=>rfl
    |true=>have:=zik hc hlt;rw[zmz]at this;cases this
   ·exact h.1 z h3
  ·rename_i hlt;have a:ltS t y=false:=by simpa using hlt
   rw[List.pairwise_cons,List.pairwise_cons];refine⟨fun z b=>?_,h⟩;rcases List.mem_cons.1 b with rfl|h3
   ·exact a
   ·cases hc:ltS t z with
    |false=>rfl
    |true=>
     have c:=h.1 z h3;cases hd:ltS z y with
     |true=>have:=zik hc hd;rw[a]at this;cases this
     |false=>have:=zil c hd;subst this;rw[a]at hc;cases hc
theorem zwj {l m:List Str} (hl:Desc l) (hm:Desc m) (hp:l.Perm m):l=m:=
 List.Perm.eq_of_pairwise (le:=fun a b=>ltS a b=false) (fun _ _ _ _ c d=>zil c d) hl hm hp
theorem zim (l:List Str):∀a,Desc a.reverse->Desc (l.foldl insL a).reverse:=by
 induction l with
 |nil=>intro a h;exact h
 |cons t l ih=>
  intro a h;rw[List.foldl_cons];apply ih;unfold insL;rw[List.reverse_reverse];exact zqm t _ h
theorem zti {l m:List Str} (h:l.Perm m):sortS l=sortS m:=by
 have c:=zim l [] (by simp[Desc]);have b:=zim m [] (by simp[Desc]);have a:((sortS l).reverse).Perm ((sortS m).reverse):=(List.reverse_perm _).trans (((za5 l).trans (h.trans (za5 m).symm)).trans (List.reverse_perm _).symm);have:=congrArg List.reverse (zwj c b a);simpa[sortS]using this
theorem zqn {l m:List Str} (h:sortS l=sortS m):l.Perm m:=(za5 l).symm.trans (h▸za5 m)
def ents (ns:List Nd) (f:Nat) (x:Nd):List Str:=(List.range x.items.length).map (fun k=>(if x.kind=10 then printF ns f (x.keys.getD k 0)else[])++printF ns f (x.items.getD k 0))
def entS (ns:List Nd) (f:Nat) (x:Nd):List Str:=if x.kind=10/\x.ord=false then sortS (ents ns f x)else ents ns f x
theorem zam {ns:List Nd} {f i:Nat} {x:Nd} (h:ns[i]? =some x):printF ns (f+1) i=
 UInt8.ofNat (97+x.kind.toNat)::(Lib.decDigits x.text.length++58::(x.text++(Lib.decDigits x.items.length++40::((entS ns f x).flatten++41::(if x.ord=true then[33]else[]))))):=by
 unfold printF entS ents;rw[h]
theorem zin {a b:Nat} {r r':Str} {c:UInt8} (hc:dig c=false) (h:Lib.decDigits a++c::r=Lib.decDigits b++c::r'):a=b/\r=r':=by
 have e:=zfv (p:=dig) (Lib.decDigits a) c r (fun x d=>List.all_eq_true.1 (zak a) x d) hc;have f:=zfv (p:=dig) (Lib.decDigits b) c r' (fun x d=>List.all_eq_true.1 (zak b) x d) hc;rw[h]at e;have g:Lib.decDigits a=Lib.decDigits b:=e.1.symm.trans f.1;have i:c::r=c::r':=e.2.symm.trans f.2;refine⟨?_,by injection i⟩;have:=congrArg val g;rwa[zal,zal]at this
def NodesOk (ns:List Nd):Prop:=∀x∈ns,0<=x.kind/\x.kind<=11/\(x.kind=10->x.keys.length=x.items.length)
def Tall' (ns:List Nd):Nat->Nat->Prop
 | 0,_=>False
 |f+1,i=>∀x∈succ ns i,Tall' ns f x
structure TOk (ns:List Nd) (f i:Nat):Prop where
 lt:i<ns.length
 tall:Tall' ns f i
def no33 (r:Str):Prop:=r.head?≠some 33
def ElemOk (ns:List Nd) (f:Nat) (m:Bool) (e:Str):Prop:=if m=true then∃a b,TOk ns f a/\TOk ns f b/\e=printF ns f a++printF ns f b else∃b,TOk ns f b/\e=printF ns f b
section
variable {ns:List Nd}
theorem za0 (hok:NodesOk ns) {f i:Nat} (h:TOk ns f i) (r:Str):no33 (printF ns f i++r)/\(printF ns f i++r)≠[]:=by
 obtain⟨a,b⟩:=h;cases f with
 |zero=>exact absurd b id
 |succ f=>
  rw[zam (List.getElem?_eq_getElem a)];refine⟨?_,by simp⟩;unfold no33;have hk:=hok _ (List.getElem_mem a);intro h;simp only[List.cons_append,List.head?_cons,Option.some.injEq]at h;have:=congrArg UInt8.toNat h;rw[UInt8.toNat_ofNat',Nat.mod_eq_of_lt (by omega)]at this;have h33:(33:UInt8).toNat=33:=rfl;omega
theorem zio (hok:NodesOk ns) {f:Nat} {m:Bool} {e:Str} (h:ElemOk ns f m e) (r:Str):no33 (e++r):=by
 unfold ElemOk at h;split at h
 ·obtain⟨a,b,c,_,rfl⟩:=h;rw[List.append_assoc];exact(za0 hok c _).1
 ·obtain⟨b,d,rfl⟩:=h;exact(za0 hok d _).1
theorem ziq {f:Nat} {m:Bool} (hh:∀e,ElemOk ns f m e->∀r,no33 (e++r)) (L:List Str) (hL:∀e∈L,ElemOk ns f m e) (q:Str):no33 (L.flatten++41::q):=by
 cases L with
 |nil=>simp[no33]
 |cons e L=>
  grind
theorem zqo (hok:NodesOk ns) (hr:Refs ns) {f i:Nat} (hi:i<ns.length) (ht:Tall' ns (f+1) i):∀e∈entS ns f ns[i],ElemOk ns f (decide (ns[i].kind=10)) e:=by
 have b:∀e∈entS ns f ns[i],e∈ents ns f ns[i]:=by
  intro e a;unfold entS at a;split at a
  ·exact(za5 _).mem_iff.1 a
  ·exact a
 intro e a;have c:=b e a;unfold ents at c;obtain⟨k,g,rfl⟩:=List.mem_map.1 c;have hkl:=List.mem_range.1 g;have d:=hok _ (List.getElem_mem hi);have hs:succ ns i=ns[i].keys++ns[i].items:=by unfold succ;rw[List.getElem?_eq_getElem hi]
 have hit:ns[i].items.getD k 0∈succ ns i:=by
  grind
 have ok2:∀x∈succ ns i,TOk ns f x:=fun x d=>⟨hr.succ i x d,ht x d⟩
 unfold ElemOk;by_cases h10:ns[i].kind=10
 ·grind
 ·grind
def SplitAt (ns:List Nd) (f:Nat):Prop:=∀(i g j:Nat) (r r':Str),TOk ns f i->TOk ns g j->no33 r->no33 r'->printF ns f i++r=printF ns g j++r'->printF ns f i=printF ns g j/\r=r'
theorem zm0 (hok:NodesOk ns) {f g:Nat} {m:Bool} (ih:SplitAt ns f) {e e' r r':Str} (h:ElemOk ns f m e) (h':ElemOk ns g m e') (hr1:no33 r) (hr2:no33 r') (he:e++r=e'++r'):e=e'/\r=r':=by
 unfold ElemOk at h h';split at h
 ·rename_i hm;rw[if_pos hm]at h';obtain⟨a,b,p,d,rfl⟩:=h;obtain⟨k,i,j,c,rfl⟩:=h';rw[List.append_assoc,List.append_assoc]at he;obtain⟨l,q⟩:=ih a g k _ _ p j (za0 hok d _).1 (za0 hok c _).1 he;obtain⟨o,n⟩:=ih b g i _ _ d c hr1 hr2 q;exact⟨by rw[l,o],n⟩
 ·rename_i hm;rw[if_neg hm]at h';obtain⟨b,d,rfl⟩:=h;obtain⟨i,c,rfl⟩:=h';exact ih b g i _ _ d c hr1 hr2 he
theorem zm1 (hok:NodesOk ns) {f g:Nat} {m:Bool} (ih:SplitAt ns f):∀(L M:List Str) (q q':Str),L.length=M.length->(∀e∈L,ElemOk ns f m e)->(∀e∈M,ElemOk ns g m e)->L.flatten++41::q=M.flatten++41::q'->L=M/\q=q':=by
 intro L
 induction L with
 |nil=>
  grind
 |cons e L ihL=>
  intro M q q' h j i a;cases M with
  |nil=>simp at h
  |cons e' M=>
   rw[List.flatten_cons,List.flatten_cons,List.append_assoc,List.append_assoc]at a;have c:=fun x d=>j x (.tail _ d)
   have b:=fun x d=>i x (.tail _ d)
   obtain⟨k,o⟩:=zm0 hok ih (j e (.head _)) (i e' (.head _)) (ziq (fun e a r=>zio hok a r) L c q) (ziq (fun e a r=>zio hok a r) M b q') a;obtain⟨n,l⟩:=ihL M q q' (by simpa using h) c b o;exact⟨by rw[k,n],l⟩
theorem zk7 (f:Nat) (x:Nd):(entS ns f x).length=x.items.length:=by
 unfold entS;split
 ·rw[(za5 _).length_eq];simp[ents]
 ·simp[ents]
theorem zqp {a b:Bool} {r r':Str} (h1:no33 r) (h2:no33 r') (h:(if a=true then[33]else[])++r=(if b=true then[33]else[])++r'):a=b/\r=r':=by
 cases a<;>cases b<;>simp at h ⊢
 ·exact h
 ·rw[h]at h1;simp[no33]at h1
 ·rw[<-h]at h2;simp[no33]at h2
 ·exact h
theorem zfe (hok:NodesOk ns) (hr:Refs ns) {f g i j:Nat} (ih:SplitAt ns f) (hi:TOk ns (f+1) i) (hj:TOk ns (g+1) j) {r r':Str} (h1:no33 r) (h2:no33 r') (h:printF ns (f+1) i++r=printF ns (g+1) j++r'):
 (ns[i]'hi.lt).kind=(ns[j]'hj.lt).kind/\(ns[i]'hi.lt).text=(ns[j]'hj.lt).text/\(ns[i]'hi.lt).ord=(ns[j]'hj.lt).ord/\(ns[i]'hi.lt).items.length=(ns[j]'hj.lt).items.length/\entS ns f (ns[i]'hi.lt)=entS ns g (ns[j]'hj.lt)/\r=r':=by
 have t:=zqo hok hr hi.lt hi.tall;have m:=zqo hok hr hj.lt hj.tall;rw[zam (List.getElem?_eq_getElem hi.lt),zam (List.getElem?_eq_getElem hj.lt)]at h;have k1:=hok _ (List.getElem_mem hi.lt);have k2:=hok _ (List.getElem_mem hj.lt);have u:=zk7 (ns:=ns) f (ns[i]'hi.lt);have o:=zk7 (ns:=ns) g (ns[j]'hj.lt);generalize ns[i]'hi.lt=x at *;generalize ns[j]'hj.lt=y at *;simp only[List.cons_append,List.append_assoc]at h;injection h with h3 h4
 have s:=congrArg UInt8.toNat h3;rw[UInt8.toNat_ofNat',UInt8.toNat_ofNat',Nat.mod_eq_of_lt (by omega),Nat.mod_eq_of_lt (by omega)]at s;have a:x.kind=y.kind:=by omega
 obtain⟨v,p⟩:=zin (by decide) h4;obtain⟨q,n⟩:=List.append_inj p v;obtain⟨b,c⟩:=zin (by decide) n;rw[<-a]at m;obtain⟨d,e⟩:=zm1 hok ih _ _ _ _ (by rw[u,o,b]) t m c;obtain⟨l,k⟩:=zqp h1 h2 e;exact⟨a,q,l,b,d,k⟩
theorem zc6 (hok:NodesOk ns) (hr:Refs ns):∀f,SplitAt ns f:=by
 intro f
 induction f with
 |zero=>intro i g j r m k;exact absurd k.tall id
 |succ f ih=>
  intro i g j r m k l n o h;cases g with
  |zero=>exact absurd l.tall id
  |succ g=>
   obtain⟨a,b,c,d,e,p⟩:=zfe hok hr ih k l n o h;refine⟨?_,p⟩;rw[zam (List.getElem?_eq_getElem k.lt),zam (List.getElem?_eq_getElem l.lt),a,b,c,d,e]
theorem zg4 (hok:NodesOk ns) (hr:Refs ns):∀(f i j:Nat),TOk ns f i->TOk ns f j->printF ns f i=printF ns f j->sameF ns f i j=true:=by
 intro f
 induction f with
 |zero=>intro i j n;exact absurd n.tall id
 |succ f ih=>
  intro i j n s h;obtain⟨a,b,c,d,e,_⟩:=zfe hok hr (zc6 hok hr f) n s (r:=[]) (r':=[]) (by simp[no33]) (by simp[no33]) (by rw[h]);have v:∀x∈succ ns i,TOk ns f x:=fun x z=>⟨hr.succ i x z,n.tall x z⟩
  have w:∀x∈succ ns j,TOk ns f x:=fun x z=>⟨hr.succ j x z,s.tall x z⟩
  have s1:succ ns i=(ns[i]'n.lt).keys++(ns[i]'n.lt).items:=by unfold succ;rw[List.getElem?_eq_getElem n.lt]
  have s2:succ ns j=(ns[j]'s.lt).keys++(ns[j]'s.lt).items:=by unfold succ;rw[List.getElem?_eq_getElem s.lt]
  rw[s1]at v;rw[s2]at w;have S:=hok _ (List.getElem_mem n.lt);have M:=hok _ (List.getElem_mem s.lt);unfold sameF;rw[List.getElem?_eq_getElem n.lt,List.getElem?_eq_getElem s.lt];generalize ns[i]'n.lt=x at *;generalize ns[j]'s.lt=y at *;simp only;rw[if_neg (by rintro(h|h|h|h)<;>contradiction)];have O:∀k,k<x.items.length->TOk ns f (x.items.getD k 0):=fun k m=>v _ (List.mem_append_right _ (by rw[List.getD_eq_getElem?_getD,List.getElem?_eq_getElem m];exact List.getElem_mem m))
  have R:∀k,k<y.items.length->TOk ns f (y.items.getD k 0):=fun k m=>w _ (List.mem_append_right _ (by rw[List.getD_eq_getElem?_getD,List.getElem?_eq_getElem m];exact List.getElem_mem m))
  have K:x.kind=10->∀k,k<x.items.length->TOk ns f (x.keys.getD k 0):=fun q k m=>v _ (List.mem_append_left _ (by rw[List.getD_eq_getElem?_getD,List.getElem?_eq_getElem (by rw[S.2.2 q];exact m)];exact List.getElem_mem _))
  have I:y.kind=10->∀k,k<y.items.length->TOk ns f (y.keys.getD k 0):=fun q k m=>w _ (List.mem_append_left _ (by rw[List.getD_eq_getElem?_getD,List.getElem?_eq_getElem (by rw[M.2.2 q];exact m)];exact List.getElem_mem _))
  have G:∀{a b a' b':Nat},TOk ns f a->TOk ns f b->TOk ns f a'->TOk ns f b'->printF ns f a++printF ns f b=printF ns f a'++printF ns f b'->sameF ns f a a'=true/\sameF ns f b b'=true:=by
   intro a b a' b' N L B D u;obtain⟨C,E⟩:=zc6 hok hr f a f a' _ _ N B (by simpa using(za0 hok L []).1) (by simpa using(za0 hok D []).1) u;exact⟨ih a a' N B C,ih b b' L D E⟩
  by_cases hm:x.kind=10/\x.ord=false
  ·rw[if_pos hm];unfold entS at e;rw[if_pos hm,if_pos ⟨a▸hm.1,c▸hm.2⟩]at e;have Q:=zqn e;rw[List.all_eq_true];intro p H;obtain⟨k,m,A⟩:=List.mem_iff_getElem.1 H;have g:k<x.items.length:=by rw[List.length_zip]at m;omega
   have J:k<x.keys.length:=by rw[List.length_zip]at m;omega
   rw[List.getElem_zip]at A;subst A;have t:(printF ns f (x.keys.getD k 0)++printF ns f (x.items.getD k 0))∈ents ns f y:=by
    refine Q.mem_iff.1 ?_;unfold ents;exact List.mem_map.2 ⟨k,List.mem_range.2 g,by rw[if_pos hm.1]⟩
   unfold ents at t;obtain⟨l,P,u⟩:=List.mem_map.1 t;have o:=List.mem_range.1 P;rw[if_pos (a▸hm.1)]at u;obtain⟨C,E⟩:=G (K hm.1 k g) (O k g) (I (a▸hm.1) l o) (R l o) u.symm;have F:l<y.keys.length:=by rw[M.2.2 (a▸hm.1)];exact o
   rw[List.any_eq_true];refine⟨(y.keys[l],y.items[l]),List.mem_iff_getElem.2 ⟨l,by rw[List.length_zip];omega,by rw[List.getElem_zip]⟩,?_⟩;rw[List.getD_eq_getElem?_getD,List.getElem?_eq_getElem J,List.getD_eq_getElem?_getD,List.getElem?_eq_getElem F]at C;rw[List.getD_eq_getElem?_getD,List.getElem?_eq_getElem g,List.getD_eq_getElem?_getD,List.getElem?_eq_getElem o]at E;simp only[Option.getD_some]at C E;rw[C,E];rfl
  ·rw[if_neg hm];unfold entS at e;rw[if_neg hm,if_neg (by rw[<-a,<-c];exact hm)]at e;unfold ents at e;rw[List.all_eq_true];intro k m;have g:=List.mem_range.1 m;have u:((List.range x.items.length).map (fun k=>(if x.kind=10 then printF ns f (x.keys.getD k 0)else[])++printF ns f (x.items.getD k 0)))[k]? =((List.range y.items.length).map (fun k=>(if y.kind=10 then printF ns f (y.keys.getD k 0)else[])++printF ns f (y.items.getD k 0)))[k]? :=by rw[e]
   rw[List.getElem?_map,List.getElem?_map,List.getElem?_range g,List.getElem?_range (d▸g)]at u;simp only[Option.map_some,Option.some.injEq]at u;by_cases q:x.kind=10
   ·grind
   ·grind
end
end Gr
namespace Gr
def dupS:List Str->Bool
 | []=>false
 |x::l=>l.any (fun y=>y==x) || dupS l
def rtwice (ns:List Nd) (f:Nat):Bool:=ns.any (fun x=>dupS (x.keys.map (printF ns f)))
theorem zd0 (l:List Str):dupS l=false↔l.Nodup:=by
 induction l with
 |nil=>simp[dupS]
 |cons x l ih=>
  unfold dupS;rw[Bool.or_eq_false_iff,ih,List.nodup_cons];constructor
  ·grind
  ·grind
theorem zff {α:Type} [DecidableEq α]:∀(l m:List α),l.Nodup->(∀x∈l,x∈m)->m.length<=l.length->l.Perm m:=by
 intro l
 induction l with
 |nil=>intro m _ _ d;cases m with
  |nil=>exact .refl _
  |cons=>simp at d
 |cons a l ih=>
  intro m f h d;rw[List.nodup_cons]at f;have j:=h a (.head _);have i:=List.perm_cons_erase j;have b:=i.length_eq;rw[List.length_cons]at b;refine((ih (m.erase a) f.2 (fun x g=>?_) (by rw[List.length_cons]at d;omega)).cons a).trans i.symm;have c:=h x (.tail _ g);exact(List.mem_erase_of_ne (fun e=>f.1 (by rw[<-e];exact g))).2 c
section
variable {ns:List Nd}
theorem zm2 (hok:NodesOk ns) (hr:Refs ns):∀(f g i:Nat),TOk ns f i->TOk ns g i->printF ns f i=printF ns g i:=by
 intro f
 induction f with
 |zero=>intro g i a;exact absurd a.tall id
 |succ f ih=>
  intro g i a d;cases g with
  |zero=>exact absurd d.tall id
  |succ g=>
   rw[zam (List.getElem?_eq_getElem a.lt),zam (List.getElem?_eq_getElem a.lt)];have j:ents ns f (ns[i]'a.lt)=ents ns g (ns[i]'a.lt):=by
    have s1:succ ns i=(ns[i]'a.lt).keys++(ns[i]'a.lt).items:=by unfold succ;rw[List.getElem?_eq_getElem a.lt]
    have k1:=hok _ (List.getElem_mem a.lt);have e:∀x∈succ ns i,printF ns f x=printF ns g x:=fun x c=>ih g x ⟨hr.succ i x c,a.tall x c⟩ ⟨hr.succ i x c,d.tall x c⟩
    rw[s1]at e;generalize ns[i]'a.lt=x at *;unfold ents;apply List.map_congr_left;intro k h;have b:=List.mem_range.1 h;have l:=e (x.items.getD k 0) (List.mem_append_right _ (by rw[List.getD_eq_getElem?_getD,List.getElem?_eq_getElem b];exact List.getElem_mem b));by_cases h10:x.kind=10
    ·grind
    ·rw[if_neg h10,if_neg h10,l]
   unfold entS;rw[j]
theorem za4 {l:List Nat} {k:Nat} (h:k<l.length):l.getD k 0=l[k]:=by rw[List.getD_eq_getElem?_getD,List.getElem?_eq_getElem h];rfl
theorem zg5 (hok:NodesOk ns) (hr:Refs ns) (F:Nat) (hF:∀k∈allKeys ns,TOk ns F k) (hd:∀x∈ns,(x.keys.map (printF ns F)).Nodup):∀(f i j:Nat),TOk ns f i->TOk ns f j->sameF ns f i j=true->printF ns f i=printF ns f j:=by
 intro f
 induction f with
 |zero=>intro i j m;exact absurd m.tall id
 |succ f ih=>
  intro i j m o h;have g:∀x∈succ ns i,TOk ns f x:=fun x A=>⟨hr.succ i x A,m.tall x A⟩
  have n:∀x∈succ ns j,TOk ns f x:=fun x A=>⟨hr.succ j x A,o.tall x A⟩
  have s1:succ ns i=(ns[i]'m.lt).keys++(ns[i]'m.lt).items:=by unfold succ;rw[List.getElem?_eq_getElem m.lt]
  have s2:succ ns j=(ns[j]'o.lt).keys++(ns[j]'o.lt).items:=by unfold succ;rw[List.getElem?_eq_getElem o.lt]
  have U:=hok _ (List.getElem_mem m.lt);have T:=hok _ (List.getElem_mem o.lt);have O:=hd _ (List.getElem_mem m.lt);have L:∀k∈(ns[i]'m.lt).keys,printF ns F k=printF ns f k:=fun k r=>by
   refine zm2 hok hr F f k (hF k (List.mem_flatMap.2 ⟨_,List.getElem_mem m.lt,r⟩)) (g k ?_);rw[s1];exact List.mem_append_left _ r
  rw[s1]at g;rw[s2]at n;unfold sameF at h;rw[List.getElem?_eq_getElem m.lt,List.getElem?_eq_getElem o.lt]at h;rw[zam (List.getElem?_eq_getElem m.lt),zam (List.getElem?_eq_getElem o.lt)];generalize ns[i]'m.lt=x at *;generalize ns[j]'o.lt=y at *;simp only at h;split at h
  ·cases h
  ·rename_i hne;have a:x.kind=y.kind:=Decidable.by_contra fun e=>hne (.inl e)
   have b:x.text=y.text:=Decidable.by_contra fun e=>hne (.inr (.inl e))
   have c:x.ord=y.ord:=Decidable.by_contra fun e=>hne (.inr (.inr (.inl e)))
   have d:x.items.length=y.items.length:=Decidable.by_contra fun e=>hne (.inr (.inr (.inr e)))
   have D:entS ns f x=entS ns f y:=by
    unfold entS;split at h
    ·rename_i hm;rw[if_pos hm,if_pos ⟨a▸hm.1,c▸hm.2⟩];apply zti;have lx:=U.2.2 hm.1;have ly:=T.2.2 (a▸hm.1);refine zff _ _ ?_ ?_ (by simp[ents,d])
     ·unfold ents;simp only[if_pos hm.1];unfold List.Nodup;rw[List.pairwise_map];have s:=O;unfold List.Nodup at s;rw[List.pairwise_map,List.pairwise_iff_getElem]at s;rw[List.pairwise_iff_getElem];intro p q R P H D;have hpl:p<x.items.length:=by simpa using R
      have hql:q<x.items.length:=by simpa using P
      rw[List.getElem_range,List.getElem_range]at D;have S:TOk ns f (x.keys.getD p 0):=g _ (List.mem_append_left _ (by rw[za4 (by omega)];exact List.getElem_mem _));have N:TOk ns f (x.keys.getD q 0):=g _ (List.mem_append_left _ (by rw[za4 (by omega)];exact List.getElem_mem _));have I:TOk ns f (x.items.getD p 0):=g _ (List.mem_append_right _ (by rw[za4 (by omega)];exact List.getElem_mem _));have J:TOk ns f (x.items.getD q 0):=g _ (List.mem_append_right _ (by rw[za4 (by omega)];exact List.getElem_mem _));obtain⟨G,_⟩:=zc6 hok hr f _ f _ _ _ S N (by simpa using(za0 hok I []).1) (by simpa using(za0 hok J []).1) D;rw[za4 (by omega),za4 (by omega)]at G;have w:=s p q (by omega) (by omega) H;apply w;rw[L _ (List.getElem_mem _),L _ (List.getElem_mem _)];exact G
     ·intro e C;unfold ents at C ⊢;obtain⟨k,r,rfl⟩:=List.mem_map.1 C;have t:=List.mem_range.1 r;rw[List.all_eq_true]at h;have z:=h (x.keys[k],x.items[k]) (List.mem_iff_getElem.2 ⟨k,by rw[List.length_zip];omega,by rw[List.getElem_zip]⟩);rw[List.any_eq_true]at z;obtain⟨⟨u,v⟩,K,E⟩:=z;obtain⟨l,Q,B⟩:=List.mem_iff_getElem.1 K;rw[List.length_zip]at Q;rw[List.getElem_zip]at B;injection B with hu hv
      rw[Bool.and_eq_true]at E;simp only at E;have G:=ih _ _ (g _ (List.mem_append_left _ (List.getElem_mem _))) (n u (List.mem_append_left _ (by rw[<-hu];exact List.getElem_mem _))) E.1;have M:=ih _ _ (g _ (List.mem_append_right _ (List.getElem_mem _))) (n v (List.mem_append_right _ (by rw[<-hv];exact List.getElem_mem _))) E.2;refine List.mem_map.2 ⟨l,List.mem_range.2 (by omega),?_⟩;rw[if_pos hm.1,if_pos (a▸hm.1),za4 (by omega),za4 (by omega),za4 (by omega),za4 (by omega),hu,hv,G,M]
    ·rename_i hm;rw[if_neg hm,if_neg (by rw[<-a,<-c];exact hm)];unfold ents;rw[<-d];apply List.map_congr_left;intro k r;have t:=List.mem_range.1 r;rw[List.all_eq_true]at h;have z:=h k r;rw[Bool.and_eq_true,Bool.or_eq_true]at z;have M:=ih _ _ (g _ (List.mem_append_right _ (by rw[za4 t];exact List.getElem_mem _))) (n _ (List.mem_append_right _ (by rw[za4 (d▸t)];exact List.getElem_mem _))) z.2;by_cases h10:x.kind=10
     ·grind
     ·grind
   rw[a,b,c,d,D]
theorem zg6 (hok:NodesOk ns) (hr:Refs ns) (F:Nat):∀L:List Nat,(∀k∈L,TOk ns F k)->dupS (L.map (printF ns F))=true->twice1 ns F L=true:=by
 intro L
 induction L with
 |nil=>intro _ h;cases h
 |cons x l ih=>
  intro b h;rw[List.map_cons]at h;unfold dupS at h;unfold twice1;rw[Bool.or_eq_true]at h ⊢;rcases h with h|h
  ·left;rw[List.any_eq_true]at h ⊢;obtain⟨s,c,d⟩:=h;obtain⟨y,a,rfl⟩:=List.mem_map.1 c;exact⟨y,a,zg4 hok hr F y x (b y (.tail _ a)) (b x (.head _)) (by simpa using d)⟩
  ·grind
theorem zqq (F:Nat):∀L:List Nat,(∀a∈L,∀b∈L,sameF ns F a b=true->printF ns F a=printF ns F b)->dupS (L.map (printF ns F))=false->twice1 ns F L=false:=by
 intro L
 induction L with
 |nil=>intro _ _;rfl
 |cons x l ih=>
  intro c h;rw[List.map_cons]at h;unfold dupS at h;unfold twice1;rw[Bool.or_eq_false_iff]at h ⊢;refine⟨?_,ih (fun a i b j=>c a (.tail _ i) b (.tail _ j)) h.2⟩;rw[List.any_eq_false];intro y d g;have f:=c y (.tail _ d) x (.head _) g;have e:=h.1;rw[List.any_eq_false]at e;exact e _ (List.mem_map.2 ⟨y,d,rfl⟩) (by simp[f])
theorem ztj (hok:NodesOk ns) (hr:Refs ns) (F:Nat) (hF:∀k∈allKeys ns,TOk ns F k):twice ns F=rtwice ns F:=by
 have e:∀x∈ns,∀k∈x.keys,TOk ns F k:=fun x c k e=>hF k (List.mem_flatMap.2 ⟨x,c,e⟩)
 cases h:rtwice ns F with
 |true=>
  unfold rtwice at h;obtain⟨x,c,l⟩:=List.any_eq_true.1 h;unfold twice;exact List.any_eq_true.2 ⟨x,c,zg6 hok hr F _ (e x c) l⟩
 |false=>
  unfold rtwice at h;have d:∀x∈ns,dupS (x.keys.map (printF ns F))=false:=fun x c=>by simpa using List.any_eq_false.1 h x c
  unfold twice;rw[List.any_eq_false];intro x c;rw[Bool.not_eq_true];exact zqq F _ (fun a i b j f=>zg5 hok hr F hF (fun z g=>(zd0 _).1 (d z g)) F a b (e x c a i) (e x c b j) f) (d x c)
end
end Gr
open _root_.Go.Proofs.Tryz
set_option maxRecDepth 100000
set_option maxHeartbeats 16000000
open Go.RowKit
theorem zh7 {w:World} {g:Nat} {t:TypeId} {cs:Array Value} (h:w.heap.size=g):Blk (w.alloc (.cells cs t)) g t cs:=by subst h;exact Blk.new _ _ _
theorem zk1 (s:Gr.Str) (hl:s.length<=1073741823) (w:World):Calls prog 92 #[.string ⟨s.toArray⟩] w (RPost (rdT s) w):=by
 go_enter func92,ntmps92;go_upto_region 4 with fail;obtain⟨c,b⟩:=ex (((((w.alloc (.cells #[.string ⟨s.toArray⟩] 9)).alloc (.cells #[.int .i64 0,.int .i64 0,.int .i64 0,.int .i64 0,.int .i64 0,.int .i64 0,.int .i64 0,.int .i64 0,.int .i64 0,.int .i64 0,.int .u8 0] 135)).alloc (.cells #[.int .i64 0,.int .i64 0,.int .i64 0,.int .i64 0,.int .i64 0,.int .i64 0,.int .i64 0,.int .i64 0,.int .i64 0,.int .i64 0,.int .u8 0] 135)).alloc (.cells #[.int .i64 0] 3)).alloc (.cells #[.func (.func 124) #[] #[.pointer (some ⟨w.heap.size+1+1+1,0,none⟩),.pointer (some ⟨w.heap.size,0,none⟩)]] 170))
 have i:Blk c (w.heap.size) 9 #[.string ⟨s.toArray⟩]:=by rw[<-b];exact((((zh7 (by simp)).alloc _).alloc _).alloc _).alloc _
 have h:Blk c (w.heap.size+1) 135 #[.int .i64 0,.int .i64 0,.int .i64 0,.int .i64 0,.int .i64 0,.int .i64 0,.int .i64 0,.int .i64 0,.int .i64 0,.int .i64 0,.int .u8 0]:=by rw[<-b];exact(((zh7 (by simp)).alloc _).alloc _).alloc _
 have e:Blk c (w.heap.size+1+1) 135 #[.int .i64 0,.int .i64 0,.int .i64 0,.int .i64 0,.int .i64 0,.int .i64 0,.int .i64 0,.int .i64 0,.int .i64 0,.int .i64 0,.int .u8 0]:=by rw[<-b];exact((zh7 (by simp)).alloc _).alloc _
 have d:Blk c (w.heap.size+1+1+1) 3 #[.int .i64 0]:=by rw[<-b];exact(zh7 (by simp)).alloc _
 have g:Blk c (w.heap.size+1+1+1+1) 170 #[.func (.func 124) #[] #[.pointer (some ⟨w.heap.size+1+1+1,0,none⟩),.pointer (some ⟨w.heap.size,0,none⟩)]]:=by rw[<-b];exact zh7 (by simp)
 have f:Below w.heap.size w c:=by rw[<-b];exact(((((Below.refl _ _).alloc (Nat.le_refl _) _).alloc (by simp) _).alloc (by simp;omega) _).alloc (by simp;omega) _).alloc (by simp;omega) _
 have j:Hid (RMem s w (w.heap.size) (w.heap.size+1) (w.heap.size+1+1) (w.heap.size+1+1+1) (w.heap.size+1+1+1+1) 0 (fun _=>0) 0 0 0 c):=Lib.hid ⟨f,by omega,by omega,by omega,by omega,i,h,e,d,g⟩;(try rw[b]);clear b i h e d g f;go_cut [7] (fun s7 k=>s7=.func (.func 125) #[] #[.pointer (some ⟨w.heap.size+1+1+1,0,none⟩),.pointer (some ⟨w.heap.size,0,none⟩),.pointer (some ⟨w.heap.size+1+1+1+1,0,none⟩)]/\k=c)
 case first=>
  go_wp2;go_meet;exact⟨rfl,rfl⟩
 case rest=>
 obtain⟨rfl,rfl⟩:=hcut;refine(‹∀(a:Act) (w_1:World),Code.wp prog _ _ a w_1->_›) _ _ ?_;exact zvw s hl w _ _ _ _ _ _ (rdT s) j (Lib.hid rfl)
open Gr
structure MoOk (x:Gr.Mo):Prop where
 y:x.y<=9999
 m:x.m<=99
 d:x.d<=99
 h:x.h<=99
 mi:x.mi<=99
 c:x.c<=99
 nanos:x.nanos<=999999999
 zh:x.zh<=99
 zm:x.zm<=99
 sh:(x.date=true/\x.time=true)\/(x.date=true/\x.time=false/\x.z=0)\/(x.date=false/\x.time=true/\x.z=0)
 z0:x.z=0->x.zh=0/\x.zm=0
theorem numAt2 {s:Gr.Str} {a v:Nat} (h:numAt s a 2=some v):v<=99:=by
 have:=(zcr h (by omega)).2.1;omega
theorem numAt4 {s:Gr.Str} {a v:Nat} (h:numAt s a 4=some v):v<=9999:=by
 have:=(zcr h (by omega)).2.1;omega
theorem zk3 {s:Gr.Str} {a:Nat} {k:Gr.Ck} (h:clockAt s a=some k):k.h<=99/\k.m<=99/\k.s<=99/\k.nanos<=999999999:=by
 unfold clockAt at h;split at h
 ·rename_i h1 h2 h3;have f:=numAt2 h1;have c:=numAt2 h2;have b:=numAt2 h3;split at h
  ·split at h
   ·split at h
    ·cases h
    ·rename_i hn;injection h with h
     subst h;refine⟨f,c,b,?_⟩;have e:=zd8 (s.drop (a+9));have d:=zet _ e;generalize (s.drop (a+9)).takeWhile Gr.dig=l at *;have:Gr.val l*10 ^ (9-l.length)<10 ^ l.length*10 ^ (9-l.length):=Nat.mul_lt_mul_of_pos_right d (Nat.pow_pos (by omega));rw[<-Nat.pow_add,show l.length+(9-l.length)=9 from by omega]at this;show Gr.val l*10 ^ (9-l.length)<=999999999;omega
   ·grind
  ·cases h
 ·cases h
theorem zv1 {s:Gr.Str} {a:Nat} {z:Gr.Zn} (h:zoneAt s a=some z):z.h<=99/\z.m<=99:=by
 unfold zoneAt at h;split at h
 ·grind
 ·split at h
  ·rename_i h1 h2;split at h
   ·injection h with h;subst h;exact⟨numAt2 h1,numAt2 h2⟩
   ·cases h
  ·cases h
theorem zpz {s:Gr.Str} {x:Gr.Mo} (h:Gr.rd s=some x):MoOk x:=by
 unfold Gr.rd at h;split at h
 ·split at h
  ·rename_i k hk;obtain⟨f,b,a,c⟩:=zk3 hk;split at h
   ·injection h with h;subst h
    exact⟨Nat.zero_le _,Nat.zero_le _,Nat.zero_le _,f,b,a,c,Nat.zero_le _,Nat.zero_le _,.inr (.inr ⟨rfl,rfl,rfl⟩),fun _=>⟨rfl,rfl⟩⟩
   ·cases h
  ·cases h
 ·rename_i y m d hd;have n:y<=9999/\m<=99/\d<=99:=by
   unfold dateAt at hd;split at hd
   ·rename_i h1 h2 h3;split at hd
    ·injection hd with hd
     injection hd with e1 e2
     injection e2 with e2 e3
     subst e1 e2 e3;exact⟨numAt4 h1,numAt2 h2,numAt2 h3⟩
    ·cases hd
   ·cases hd
  obtain⟨j,i,g⟩:=n;split at h
  ·injection h with h;subst h
   exact⟨j,i,g,Nat.zero_le _,Nat.zero_le _,Nat.zero_le _,Nat.zero_le _,Nat.zero_le _,Nat.zero_le _,.inr (.inl ⟨rfl,rfl,rfl⟩),fun _=>⟨rfl,rfl⟩⟩
  ·split at h
   ·split at h
    ·cases h
    ·rename_i k hk;obtain⟨f,b,a,c⟩:=zk3 hk;split at h
     ·injection h with h;subst h
      exact⟨j,i,g,f,b,a,c,Nat.zero_le _,Nat.zero_le _,.inl ⟨rfl,rfl⟩,fun _=>⟨rfl,rfl⟩⟩
     ·split at h
      ·rename_i z hz;obtain⟨o,l⟩:=zv1 hz;split at h
       ·injection h with h;subst h
        exact⟨j,i,g,f,b,a,c,o,l,.inl ⟨rfl,rfl⟩,fun e=>absurd e (zpt hz)⟩
       ·cases h
      ·cases h
   ·cases h
theorem zp0 {x:Gr.Mo} (h:MoOk x):rngB x.date x.y x.m x.d x.h x.mi x.c (decide (23<x.zh) || decide (59<x.zm))=okR x:=by
 unfold rngB okR Cal.vld;have g:decide ((0:Int)<=(x.y:Int))=true:=by simp
 have a:decide ((x.y:Int)<=9999)=true:=by have:=h.y;simp;omega
 rw[g,a];have b:decide ((x.h:Int)<=23)=decide (x.h<=23):=by rw[Bool.eq_iff_iff];simp;omega
 have i:decide ((x.mi:Int)<=59)=decide (x.mi<=59):=by rw[Bool.eq_iff_iff];simp;omega
 have f:decide ((x.c:Int)<=59)=decide (x.c<=59):=by rw[Bool.eq_iff_iff];simp;omega
 have e:(!(decide (23<x.zh) || decide (59<x.zm)))=(decide (x.zh<=23) && decide (x.zm<=59)):=by rw[Bool.eq_iff_iff];simp
 rw[b,i,f,e];cases x.date<;>simp[Bool.and_assoc,Bool.and_comm,Bool.and_left_comm]
open _root_.Go.Lib (hid)
theorem zp1 {x:Gr.Mo} (_h:MoOk x) (hr:okR x=true) (hd:x.date=true):Cal.vld x.y x.m x.d=true/\-63000000000<=secs x/\secs x<=260000000000/\-1000000<=offS x/\offS x<=1000000:=by
 unfold okR at hr;rw[hd]at hr;simp only[Bool.not_true,Bool.false_or,Bool.and_eq_true,decide_eq_true_eq]at hr;obtain⟨⟨⟨⟨⟨a,h1⟩,h2⟩,h3⟩,h4⟩,h5⟩:=hr;have hb:=Cal.zyu a;have b:-1000000<=offS x/\offS x<=1000000:=by unfold offS;split<;>omega
 refine⟨a,?_,?_,b⟩
 ·unfold secs;omega
 ·unfold secs;omega
def RIPost (r:Gr.Str×Nat) (w:World) (e:Ending) (w':World):Prop:=e=.returned (.tuple #[.string ⟨r.1.toArray⟩,.int .i64 (r.2:Nat)])/\Below w.heap.size w w'
theorem zxw {n _nanos:Int} {y m d:Int} (hv:Cal.vld y m d=true) (hn:Cal.num y m d=(n+62167219200) /86400-719528):∃a b c:Nat,y=a/\m=b/\d=c/\a<=999999999/\b<=999999999/\c<=999999999/\dateOf (n /86400)=(a,b,c):=by
 have h:=Cal.zou hv;have hd:=Cal.zxh y m;refine⟨y.toNat,m.toNat,d.toNat,by omega,by omega,by omega,by omega,by omega,by omega,?_⟩;apply zht
 ·rw[show((y.toNat:Nat):Int)=y from by omega,show((m.toNat:Nat):Int)=m from by omega,show((d.toNat:Nat):Int)=d from by omega];exact hv
 ·rw[show((y.toNat:Nat):Int)=y from by omega,show((m.toNat:Nat):Int)=m from by omega,show((d.toNat:Nat):Int)=d from by omega,hn];omega
theorem ofshow (n:Int) (nanos:Nat) (_h0:-62167219200<=n) (_h1:n<=253402300799) (hn:nanos<=999999999) (w:World) (e:Ending) (w':World) (h:OfPost (n+62167219200) (nanos:Int) w e w'):
 ∃a b c p q r:Nat,e=.returned (.agg #[.bool true,.bool true,.bool true,.int .i64 (a:Int),.int .i64 (b:Int),.int .i64 (c:Int),.int .i64 (p:Int),.int .i64 (q:Int),.int .i64 (r:Int),.int .i64 (nanos:Int),.int .i64 0,.bool false])/\Below w.heap.size w w'/\
 (∀W,Calls prog 105 #[.agg #[.bool true,.bool true,.bool true,.int .i64 (a:Int),.int .i64 (b:Int),.int .i64 (c:Int),.int .i64 (p:Int),.int .i64 (q:Int),.int .i64 (r:Int),.int .i64 (nanos:Int),.int .i64 0,.bool false]] W fun e W'=>e=.returned (.string ⟨(momS (n /86400) (n%86400).toNat nanos).toArray⟩)/\Below W.heap.size W W'):=by
 obtain⟨y,m,d,j,f,k,s⟩:=h;obtain⟨a,b,c,rfl,rfl,rfl,o,g,l,i⟩:=zxw (_nanos:=nanos) j f;refine⟨a,b,c,(n%86400).toNat /3600,(n%86400).toNat /60%60,(n%86400).toNat%60,?_,s,fun W=>?_⟩
 ·rw[k,show(n+62167219200)%86400 /3600=(((n%86400).toNat /3600:Nat):Int)from by omega,show(n+62167219200)%86400 /60%60=(((n%86400).toNat /60%60:Nat):Int)from by omega,show(n+62167219200)%86400%60=(((n%86400).toNat%60:Nat):Int)from by omega]
 ·have:=zpy a b c ((n%86400).toNat /3600) ((n%86400).toNat /60%60) ((n%86400).toNat%60) nanos 0 false o g l (by omega) (by omega) (by omega) hn W;rw[show momS (n /86400) (n%86400).toNat nanos=dateS a b c++[84]++clkS ((n%86400).toNat /3600) ((n%86400).toNat /60%60) ((n%86400).toNat%60) nanos++[90]from by unfold momS;rw[i];simp];exact this
theorem zeb (s:Gr.Str) (hl:s.length<=1073741823) (w:World):
 Calls prog 102 #[.string ⟨s.toArray⟩] w (RIPost (insP s) w):=by
 have J:=hid (fun W=>zc2 s hl W);have an:Hid (insP s=insP s):=hid rfl;obtain⟨r,P⟩:=ex (insP s)
 have HR:=hid P;rw[P];clear P an;have Y:Hid (insP s=match Gr.rd s with|none=>([],3)|some x=>if x.z=0 then([],3)else if okR x=false then([],13)else if secs x< -62167219200\/253402300800<=secs x then([],13)else(momS (secs x /86400) (secs x%86400).toNat x.nanos,0)):=hid rfl;cases hrd:Gr.rd s with
 |none=>
  have Q:Hid (r=([],3)):=hid (by rw[<-HR.out,Y.out,hrd]);have G:=hid hrd;clear hrd;go_enter func102,ntmps102;go_wp2_with fail;refine(J.out _).mono ?_;rintro e B ⟨⟨t0,t1,t2,t3,t4,t5,t6,t7,t8,t9,t10,t11⟩,ok,rfl,j,k⟩;rw[G.out]at k;simp only at k;subst k;have g:=hid j;clear j;simp only[RT.v];go_wp2;go_ret2;rw[Q.out];exact⟨rfl,g.out.alloc g.out.size _⟩
 |some x=>
  have o:=zpz hrd;have HOK:=hid o;have G:=hid hrd;have S:=zp0 o;have HZ:Hid (decide (x.z≠0)=!decide (x.z=0)):=hid (by simp);by_cases hz:x.z=0
  ·have Q:Hid (r=([],3)):=hid (by rw[<-HR.out,Y.out,hrd];simp only;rw[if_pos hz]);have O:decide (x.z≠0)=false:=by simp[hz]
   have L:=hid O;clear hrd o S hz O;go_enter func102,ntmps102;go_wp2_with fail;refine(J.out _).mono ?_;rintro e B ⟨t,ok,rfl,j,k⟩;rw[G.out]at k;simp only at k;obtain⟨rfl,rfl⟩:=k;have g:=hid j;clear j;simp only[RT.v,toRT,L.out];go_wp2;go_ret2;rw[Q.out];exact⟨rfl,g.out.alloc g.out.size _⟩
  ·have O:decide (x.z≠0)=true:=by simp[hz]
   have R:x.date=true/\x.time=true:=by
    rcases o.sh with h|⟨_,_,h⟩|⟨_,_,h⟩
    ·exact h
    ·exact absurd h hz
    ·exact absurd h hz
   have L:=hid O;have E:=hid R;obtain⟨K,aa⟩:=ex (decide (23<x.zh) || decide (59<x.zm))
   obtain⟨of,V⟩:=ex (offS x)
   have F:=hid (And.intro aa V);rw[R.1,aa]at S;have N:Hid (∀W,Calls prog 104 #[.agg #[.bool true,.bool true,.bool true,.int .i64 (x.y:Int),.int .i64 (x.m:Int),.int .i64 (x.d:Int),.int .i64 (x.h:Int),.int .i64 (x.mi:Int),.int .i64 (x.c:Int),.int .i64 (x.nanos:Int),.int .i64 of,.bool K]] W fun e w'=>e=.returned (.bool (okR x))/\Below W.heap.size W w'):=hid (fun W=>by
    have:=zea true true true (x.y:Int) (x.m:Int) (x.d:Int) (x.h:Int) (x.mi:Int) (x.c:Int) (x.nanos:Int) of K W;rwa[S]at this)
   by_cases P:okR x=false
   ·have Q:Hid (r=([],13)):=hid (by rw[<-HR.out,Y.out,hrd];simp only;rw[if_neg hz,if_pos P]);rw[P]at N;clear hrd o S hz O R aa V P;go_enter func102,ntmps102;go_wp2_with fail;refine(J.out _).mono ?_;rintro e B ⟨t,ok,rfl,j,k⟩;rw[G.out]at k;simp only at k;obtain⟨rfl,rfl⟩:=k;have g:=hid j;clear j;simp only[RT.v,toRT,L.out,E.out.1,E.out.2,F.out.1,F.out.2];go_wp2_with fail;refine(N.out _).mono ?_;rintro e I ⟨rfl,i⟩;have f:Hid (Below w.heap.size w I):=hid ((g.out.alloc g.out.size _).trans (i.mono (by have:=g.out.size;simp;omega)));clear i;go_wp2;go_ret2;rw[Q.out];exact⟨rfl,f.out⟩
   ·rw[Bool.not_eq_false]at P;rw[P]at N;obtain⟨hv,ap,au,ad,ac⟩:=zp1 o P R.1;have am:=Cal.zou hv;have aq:=Cal.zxh x.y x.m;rw[V]at ad ac;have af:86400*Cal.num x.y x.m x.d+3600*(x.h:Int)+60*(x.mi:Int)+(x.c:Int)-of=secs x:=by unfold secs;rw[V];omega
    have Z:Hid (∀W,Calls prog 132 #[.agg #[.bool true,.bool true,.bool true,.int .i64 (x.y:Int),.int .i64 (x.m:Int),.int .i64 (x.d:Int),.int .i64 (x.h:Int),.int .i64 (x.mi:Int),.int .i64 (x.c:Int),.int .i64 (x.nanos:Int),.int .i64 of,.bool K]] W fun e w'=>e=.returned (.int .i64 (secs x))/\Below W.heap.size W w'):=hid (fun W=>by
     have h1:=o.h;have h2:=o.mi;have h3:=o.c;have:=zh9 true true true (x.y:Int) (x.m:Int) (x.d:Int) (x.h:Int) (x.mi:Int) (x.c:Int) (x.nanos:Int) of K (by omega) (by omega) (by omega) (by omega) (by omega) (by omega) (by omega) (by omega) (by omega) (by omega) (by omega) (by omega) ad ac W;rwa[af]at this)
    have ao:=o.nanos;obtain⟨n,hn⟩:=ex (secs x)
    rw[hn]at Z ap au;have HN:=hid hn;have A:Hid (r=if n< -62167219200\/253402300800<=n then([],13)else(momS (n /86400) (n%86400).toNat x.nanos,0)):=hid (by rw[<-HR.out,Y.out,hrd];simp only;rw[if_neg hz,if_neg (by rw[P];decide),hn]);have ak:Hid (∀W,-62167219200<=n->n<=253402300799->Calls prog 133 #[.int .i64 n,.int .i64 (x.nanos:Int)] W (OfPost (n+62167219200) (x.nanos:Int) W)):=hid (fun W a b=>zv0 n (n+62167219200) (x.nanos:Int) (by omega) (by omega) (by omega) W);clear hrd o S hz O R aa V P hv am aq ad ac af hn Y;by_cases h1:n< -62167219200
    ·have Q:Hid (r=([],13)):=hid (by rw[A.out,if_pos (.inl h1)]);clear A;go_enter func102,ntmps102;go_wp2_with fail;refine(J.out _).mono ?_;rintro e B ⟨t,ok,rfl,j,k⟩;rw[G.out]at k;simp only at k;obtain⟨rfl,rfl⟩:=k;have g:=hid j;clear j;simp only[RT.v,toRT,L.out,E.out.1,E.out.2,F.out.1,F.out.2];go_wp2_with fail;refine(N.out _).mono ?_;rintro e I ⟨rfl,i⟩;have f:Hid (Blk I B.heap.size 111 (T12 true true true (x.y:Int) (x.m:Int) (x.d:Int) (x.h:Int) (x.mi:Int) (x.c:Int) (x.nanos:Int) of K)/\Below w.heap.size w I/\B.heap.size<I.heap.size):=hid (by
      have C:=Blk.new B 111 (T12 true true true (x.y:Int) (x.m:Int) (x.d:Int) (x.h:Int) (x.mi:Int) (x.c:Int) (x.nanos:Int) of K);exact⟨C.below i C.lt,(g.out.alloc g.out.size _).trans (i.mono (by have:=g.out.size;simp;omega)),by have:=i.size;simp at this;omega⟩)
     clear i;obtain⟨g4,D⟩:=ex B.heap.size
     rw[D]at f ⊢;clear D;obtain⟨q0,q1,q2,q3,q4,q5,q6,q7,q8,q9,X,T⟩:=zag f.out.1;go_wp2_with fail;refine(Z.out _).mono ?_;rintro e w3 ⟨rfl,l⟩;have H:Hid (Blk w3 g4 111 (T12 true true true (x.y:Int) (x.m:Int) (x.d:Int) (x.h:Int) (x.mi:Int) (x.c:Int) (x.nanos:Int) of K)/\Below w.heap.size w w3):=hid ⟨f.out.1.below l f.out.1.lt,f.out.2.1.trans (l.mono f.out.2.1.size)⟩;clear l q0 q1 q2 q3 q4 q5 q6 q7 q8 q9 X T;go_wp2;go_ret2;rw[Q.out];exact⟨rfl,H.out.2⟩
    ·by_cases h2:253402300799<n
     ·have Q:Hid (r=([],13)):=hid (by rw[A.out,if_pos (.inr (by omega))]);clear A;go_enter func102,ntmps102;go_wp2_with fail;refine(J.out _).mono ?_;rintro e B ⟨t,ok,rfl,j,k⟩;rw[G.out]at k;simp only at k;obtain⟨rfl,rfl⟩:=k;have g:=hid j;clear j;simp only[RT.v,toRT,L.out,E.out.1,E.out.2,F.out.1,F.out.2];go_wp2_with fail;refine(N.out _).mono ?_;rintro e I ⟨rfl,i⟩;have f:Hid (Blk I B.heap.size 111 (T12 true true true (x.y:Int) (x.m:Int) (x.d:Int) (x.h:Int) (x.mi:Int) (x.c:Int) (x.nanos:Int) of K)/\Below w.heap.size w I/\B.heap.size<I.heap.size):=hid (by
       have C:=Blk.new B 111 (T12 true true true (x.y:Int) (x.m:Int) (x.d:Int) (x.h:Int) (x.mi:Int) (x.c:Int) (x.nanos:Int) of K);exact⟨C.below i C.lt,(g.out.alloc g.out.size _).trans (i.mono (by have:=g.out.size;simp;omega)),by have:=i.size;simp at this;omega⟩)
      clear i;obtain⟨g4,D⟩:=ex B.heap.size
      rw[D]at f ⊢;clear D;obtain⟨q0,q1,q2,q3,q4,q5,q6,q7,q8,q9,X,T⟩:=zag f.out.1;go_wp2_with fail;refine(Z.out _).mono ?_;rintro e w3 ⟨rfl,l⟩;have H:Hid (Blk w3 g4 111 (T12 true true true (x.y:Int) (x.m:Int) (x.d:Int) (x.h:Int) (x.mi:Int) (x.c:Int) (x.nanos:Int) of K)/\Below w.heap.size w w3):=hid ⟨f.out.1.below l f.out.1.lt,f.out.2.1.trans (l.mono f.out.2.1.size)⟩;clear l q0 q1 q2 q3 q4 q5 q6 q7 q8 q9 X T;go_wp2;go_ret2;rw[Q.out];exact⟨rfl,H.out.2⟩
     ·have Q:Hid (r=(momS (n /86400) (n%86400).toNat x.nanos,0)):=hid (by rw[A.out,if_neg (by omega)]);have ag:=hid (fun W=>ak.out W (by omega) (by omega));have ah:=hid (fun W e W' h=>ofshow n x.nanos (by omega) (by omega) ao W e W' h);obtain⟨M,hM⟩:=ex (momS (n /86400) (n%86400).toNat x.nanos)
      rw[hM]at Q ah;clear hM;clear A ak;go_enter func102,ntmps102;go_wp2_with fail;refine(J.out _).mono ?_;rintro e B ⟨t,ok,rfl,j,k⟩;rw[G.out]at k;simp only at k;obtain⟨rfl,rfl⟩:=k;have g:=hid j;clear j;simp only[RT.v,toRT,L.out,E.out.1,E.out.2,F.out.1,F.out.2];go_wp2_with fail;refine(N.out _).mono ?_;rintro e I ⟨rfl,i⟩;have f:Hid (Blk I B.heap.size 111 (T12 true true true (x.y:Int) (x.m:Int) (x.d:Int) (x.h:Int) (x.mi:Int) (x.c:Int) (x.nanos:Int) of K)/\Below w.heap.size w I/\B.heap.size<I.heap.size):=hid (by
       have C:=Blk.new B 111 (T12 true true true (x.y:Int) (x.m:Int) (x.d:Int) (x.h:Int) (x.mi:Int) (x.c:Int) (x.nanos:Int) of K);exact⟨C.below i C.lt,(g.out.alloc g.out.size _).trans (i.mono (by have:=g.out.size;simp;omega)),by have:=i.size;simp at this;omega⟩)
      clear i;obtain⟨g4,D⟩:=ex B.heap.size
      rw[D]at f ⊢;clear D;obtain⟨q0,q1,q2,q3,q4,q5,q6,q7,q8,q9,X,T⟩:=zag f.out.1;go_wp2_with fail;refine(Z.out _).mono ?_;rintro e w3 ⟨rfl,l⟩;have H:Hid (Blk w3 g4 111 (T12 true true true (x.y:Int) (x.m:Int) (x.d:Int) (x.h:Int) (x.mi:Int) (x.c:Int) (x.nanos:Int) of K)/\Below w.heap.size w w3):=hid ⟨f.out.1.below l f.out.1.lt,f.out.2.1.trans (l.mono f.out.2.1.size)⟩;clear l q0 q1 q2 q3 q4 q5 q6 q7 q8 q9 X T;have q9:w3.cell? ⟨g4,9,none⟩=some (.int .i64 (x.nanos:Int)):=H.out.1.cell 9;go_wp2_with fail;refine(ag.out _).mono ?_;intro e w4 ab;obtain⟨a,b,c,p,q,u,rfl,ai,U⟩:=ah.out _ _ _ ab;have aj:Hid (Below w.heap.size w w4):=hid (H.out.2.trans (ai.mono H.out.2.size));have al:=hid U;clear ab ai U q9;go_wp2_with fail;refine(al.out _).mono ?_;rintro e w5 ⟨rfl,ae⟩;have ar:Hid (Below w.heap.size w w5):=hid (aj.out.trans (ae.mono aj.out.size));clear ae;go_wp2;go_ret2;rw[Q.out];exact⟨rfl,ar.out⟩
namespace Utf
def rowOf (c:Nat):Nat×Nat×Nat×Nat:=
 if 192<=c/\c<224 then(2,c-192,128,2047)
 else if 224<=c/\c<240 then(3,c-224,2048,65535)
 else if 240<=c/\c<248 then(4,c-240,65536,1114111)
 else(0,0,0,0)
def goOn:Nat->Str->Option Nat
 |v,[]=>some v
 |v,c::r=>if c<128 || 191<c then none else goOn (64*v+(c.toNat-128)) r
def widen:Nat->Nat×Nat->Nat×Nat
 | 0,p=>p
 |k+1,p=>widen k (64*p.1,64*p.2+63)
def begins (b:Str):Nat×Nat:=
 match b with
 | []=>(0,0)
 |c::r=>
  if c<128/\r=[]then(c.toNat,1)
  else
   let n:=(rowOf c.toNat).1
   if r.length+1>n then(0,0)
   else match goOn (rowOf c.toNat).2.1 r with
    |none=>(0,0)
    |some v=>
     let p:=widen (n-(r.length+1)) (v,v)
     if p.2<(rowOf c.toNat).2.2.1\/p.1>(rowOf c.toNat).2.2.2\/(p.1>=55296/\p.2<=57343)then(0,0)else(p.1,n)
def refAt (r:Str):Nat×Nat:=
 if 1<=r.length/\(begins (r.take 1)).2=1 then begins (r.take 1)
 else if 2<=r.length/\(begins (r.take 2)).2=2 then begins (r.take 2)
 else if 3<=r.length/\(begins (r.take 3)).2=3 then begins (r.take 3)
 else if 4<=r.length/\(begins (r.take 4)).2=4 then begins (r.take 4)
 else(0,0)
end Utf
end Go.Proofs.YtoigpackhninoaaGreatDoor
namespace Go.Proofs.YtoigpackhninoaaGreatDoor
namespace Utf
theorem lt8 (c:UInt8) (k:Nat) (hk:k<256):(c<UInt8.ofNat k)↔c.toNat<k:=by
 rw[UInt8.lt_iff_toNat_lt,UInt8.toNat_ofNat_of_lt' (by simpa using hk)]
theorem gt8 (c:UInt8) (k:Nat) (hk:k<256):(UInt8.ofNat k<c)↔k<c.toNat:=by
 rw[UInt8.lt_iff_toNat_lt,UInt8.toNat_ofNat_of_lt' (by simpa using hk)]
def isC (d:UInt8):Bool:=decide (128<=d.toNat) && decide (d.toNat<=191)
theorem zb6 (v:Nat) (d:UInt8) (r:Str):goOn v (d::r)=if isC d then goOn (64*v+(d.toNat-128)) r else none:=by
 have b:(d<128)↔d.toNat<128:=lt8 d 128 (by omega);have a:(191<d)↔191<d.toNat:=gt8 d 191 (by omega);rw[goOn];by_cases hd:isC d=true
 ·have:128<=d.toNat/\d.toNat<=191:=by simpa[isC]using hd
  rw[if_pos hd,if_neg];simp[b,a];omega
 ·rw[if_neg hd,if_pos];simp only[isC,Bool.and_eq_true,decide_eq_true_eq]at hd;simp[b,a];omega
theorem zcs (c d:UInt8) (r:Str):begins (c::d::r)=
 if r.length+2>(rowOf c.toNat).1 then(0,0)
 else match goOn (rowOf c.toNat).2.1 (d::r)with
  |none=>(0,0)
  |some v=>if(widen ((rowOf c.toNat).1-(r.length+2)) (v,v)).2<(rowOf c.toNat).2.2.1\/(widen ((rowOf c.toNat).1-(r.length+2)) (v,v)).1>(rowOf c.toNat).2.2.2\/((widen ((rowOf c.toNat).1-(r.length+2)) (v,v)).1>=55296/\(widen ((rowOf c.toNat).1-(r.length+2)) (v,v)).2<=57343)then(0,0)else((widen ((rowOf c.toNat).1-(r.length+2)) (v,v)).1,(rowOf c.toNat).1):=by
 unfold begins;simp only[reduceCtorEq,and_false,if_false,List.length_cons]
 all_goals rfl
theorem zmq (c d:UInt8) (r:Str):(begins (c::d::r)).2=0\/((begins (c::d::r)).2=(rowOf c.toNat).1/\r.length+2<=(rowOf c.toNat).1):=by
 rw[zcs];split
 ·exact .inl rfl
 ·grind
theorem zmr (c:UInt8):(begins [c]).2=1↔c.toNat<128:=by
 have hlt:c.toNat<256:=c.toNat_lt;have a:(c<128)↔c.toNat<128:=by rw[UInt8.lt_iff_toNat_lt];rfl
 unfold begins;simp only[and_true,List.length_nil,a];by_cases hc:c.toNat<128
 ·simp[hc]
 ·rw[if_neg hc];simp only[hc,iff_false];unfold rowOf;split
  ·simp only[goOn,widen];repeat' split
   all_goals simp
  ·split
   ·simp only[goOn,widen];repeat' split
    all_goals simp
   ·split
    ·simp only[goOn,widen];repeat' split
     all_goals simp
    ·simp
theorem zv8 (c:Nat) (h:192<=c/\c<224):rowOf c=(2,c-192,128,2047):=by unfold rowOf;rw[if_pos h]
theorem zqh (c:Nat) (h:224<=c/\c<240):rowOf c=(3,c-224,2048,65535):=by unfold rowOf;rw[if_neg (by omega),if_pos h]
theorem ztc (c:Nat) (h:240<=c/\c<248):rowOf c=(4,c-240,65536,1114111):=by unfold rowOf;rw[if_neg (by omega),if_neg (by omega),if_pos h]
theorem ztd (c:Nat) (h:c<192\/248<=c):rowOf c=(0,0,0,0):=by unfold rowOf;rw[if_neg (by omega),if_neg (by omega),if_neg (by omega)]
theorem zdj (c:UInt8) (r:Str) (n:Nat) (hc:¬c.toNat<128) (hn:(rowOf c.toNat).1=n) (_h2:2<=n\/n=0) (h4:n<=4):
 refAt (c::r)=if 2<=n/\n<=r.length+1/\(begins ((c::r).take n)).2=n then begins ((c::r).take n)else(0,0):=by
 have b:¬(begins ((c::r).take 1)).2=1:=by
  rw[show(c::r).take 1=[c]from rfl,zmr];exact hc
 have hoth:∀k,2<=k->k<=r.length+1->k≠n->¬(begins ((c::r).take k)).2=k:=by
  intro k hk a hkn;cases r with
  |nil=>rw[List.length_nil]at a;omega
  |cons d q=>
   obtain⟨j,rfl⟩:∃j,k=j+2:=⟨k-2,by omega⟩
   have:=zmq c d (q.take j);rw[show(c::d::q).take (j+2)=c::d::q.take j from rfl];have hl:(q.take j).length=j:=by rw[List.length_take];simp only[List.length_cons]at a;omega
   intro he;rcases this with h|h
   ·omega
   ·omega
 unfold refAt;rw[if_neg (fun h=>b h.2),List.length_cons];by_cases a2:n=2
 ·grind
 ·grind
def Agree (s:Str):Prop:=((dec s).1=65533/\(dec s).2=1/\(refAt s).2=0)\/(¬((dec s).1=65533/\(dec s).2=1)/\refAt s=dec s)
theorem zqi (c:UInt8) (r:Str) (hc:c.toNat<128):Agree (c::r):=by
 have b:(c<128)↔c.toNat<128:=lt8 c 128 (by omega);have a:dec (c::r)=(c.toNat,1):=by
  unfold dec;simp only[List.getD_cons_zero];rw[if_pos hc]
 have d:begins [c]=(c.toNat,1):=by
  unfold begins;simp only[and_true,b,hc,if_true]
 refine .inr ⟨by rw[a];simp only;omega,?_⟩;rw[a];unfold refAt;rw[show(c::r).take 1=[c]from rfl,d,if_pos ⟨by simp,rfl⟩]
theorem zms (c:UInt8) (r:Str) (hc:128<=c.toNat) (h:c.toNat<192\/248<=c.toNat):Agree (c::r):=by
 have hlt:c.toNat<256:=c.toNat_lt;have a:dec (c::r)=(65533,1):=by
  unfold dec;simp only[List.getD_cons_zero];have b:(c.toNat /32==6)=false:=by simp;omega
  have e:(c.toNat /16==14)=false:=by simp;omega
  have d:(c.toNat /8==30)=false:=by simp;omega
  rw[if_neg (by omega),b,e,d];simp
 refine .inl ⟨by rw[a],by rw[a],?_⟩;rw[zdj c r 0 (by omega) (by rw[ztd _ h]) (.inr rfl) (by omega),if_neg (by omega)]
theorem zdz (d:UInt8):(d.toNat /64==2)=isC d:=by
 have hlt:d.toNat<256:=d.toNat_lt;unfold isC;rw[Bool.eq_iff_iff];simp;omega
theorem zqj (c:UInt8) (r:Str) (h:192<=c.toNat/\c.toNat<224):Agree (c::r):=by
 have b:=zv8 _ h;have a:=zdj c r 2 (by omega) (by rw[b]) (.inl (by omega)) (by omega);have i:(c.toNat /32==6)=true:=by simp;omega
 have k:(c.toNat /16==14)=false:=by simp;omega
 have j:(c.toNat /8==30)=false:=by simp;omega
 cases r with
 |nil=>
  have f:dec [c]=(65533,1):=by
   unfold dec;simp only[List.getD_cons_zero];rw[if_neg (by omega),i,k,j];simp
  exact .inl ⟨by rw[f],by rw[f],by rw[a,if_neg (by simp)]⟩
 |cons d q=>
  have m:begins ((c::d::q).take 2)=begins [c,d]:=rfl;have g:dec (c::d::q)=if isC d then(if 128<=c.toNat%32*64+d.toNat%64 then(c.toNat%32*64+d.toNat%64,2)else(65533,1))else(65533,1):=by
   unfold dec;simp only[List.getD_cons_zero,List.getD_cons_succ,List.length_cons];rw[if_neg (by omega),i,k,j,zdz];simp
  have e:begins [c,d]=if isC d then(if 128<=c.toNat%32*64+d.toNat%64 then(c.toNat%32*64+d.toNat%64,2)else(0,0))else(0,0):=by
   rw[zcs,b,if_neg (by simp),zb6];cases f:isC d with
   |false=>rfl
   |true=>
    have hd2:128<=d.toNat/\d.toNat<=191:=by simpa[isC]using f
    have l:64*(c.toNat-192)+(d.toNat-128)=c.toNat%32*64+d.toNat%64:=by omega
    simp only[if_true,goOn,List.length_nil,Nat.zero_add,Nat.sub_self,widen,l];by_cases hge:128<=c.toNat%32*64+d.toNat%64
    ·grind
    ·grind
  rw[m]at a;unfold Agree;rw[g,a,e];cases f:isC d with
  |false=>simp
  |true=>
   grind
end Utf
end Go.Proofs.YtoigpackhninoaaGreatDoor
namespace Go.Proofs.YtoigpackhninoaaGreatDoor
namespace Utf
theorem zif (v:Nat):Utf8.valid (v:Int)=(decide (v<55296) || (decide (57344<=v) && decide (v<=1114111))):=by
 unfold Utf8.valid;rw[Bool.eq_iff_iff];simp only[Bool.or_eq_true,Bool.and_eq_true,decide_eq_true_eq];omega
theorem zju (c:UInt8) (r:Str) (h:224<=c.toNat/\c.toNat<240):Agree (c::r):=by
 have b:=zqh _ h;have a:=zdj c r 3 (by omega) (by rw[b]) (.inl (by omega)) (by omega);have l:(c.toNat /32==6)=false:=by simp;omega
 have o:(c.toNat /16==14)=true:=by simp;omega
 have m:(c.toNat /8==30)=false:=by simp;omega
 match r,a with
 | [],a=>
  have f:dec [c]=(65533,1):=by
   unfold dec;simp only[List.getD_cons_zero];rw[if_neg (by omega),l,o,m];simp
  exact .inl ⟨by rw[f],by rw[f],by rw[a,if_neg (by simp)]⟩
 | [d],a=>
  have f:dec [c,d]=(65533,1):=by
   unfold dec;simp only[List.getD_cons_zero];rw[if_neg (by omega),l,o,m];simp
  exact .inl ⟨by rw[f],by rw[f],by rw[a,if_neg (by simp)]⟩
 |d::e::q,a=>
  have t:begins ((c::d::e::q).take 3)=begins [c,d,e]:=rfl;obtain⟨v,s⟩:∃v,v=c.toNat%16*4096+d.toNat%64*64+e.toNat%64:=⟨_,rfl⟩
  have k:dec (c::d::e::q)=if isC d && isC e then(if 2048<=v/\(v<55296\/57343<v)then(v,3)else(65533,1))else(65533,1):=by
   unfold dec;simp only[List.getD_cons_zero,List.getD_cons_succ,List.length_cons];rw[if_neg (by omega),l,o,m,zdz,zdz,<-s];have g:decide (1<q.length+1+1+1)=true:=by simp
   have i:decide (2<q.length+1+1+1)=true:=by simp
   rw[g,i];simp only[Bool.false_and,Bool.true_and,Bool.false_eq_true,if_false];have n:v<=65535:=by omega
   cases hdd:isC d && isC e with
   |false=>simp
   |true=>
    simp only[if_true,zif];by_cases hg:2048<=v/\(v<55296\/57343<v)
    ·grind
    ·grind
  have j:begins [c,d,e]=if isC d && isC e then(if 2048<=v/\(v<55296\/57343<v)then(v,3)else(0,0))else(0,0):=by
   rw[zcs,b,if_neg (by simp),zb6];cases f:isC d with
   |false=>rfl
   |true=>
    rw[if_pos rfl,zb6];cases he:isC e with
    |false=>rfl
    |true=>
     have hd2:128<=d.toNat/\d.toNat<=191:=by simpa[isC]using f
     have he2:128<=e.toNat/\e.toNat<=191:=by simpa[isC]using he
     have p:64*(64*(c.toNat-224)+(d.toNat-128))+(e.toNat-128)=v:=by omega
     have n:v<=65535:=by omega
     simp only[if_true,goOn,List.length_nil,List.length_cons,Nat.zero_add,Nat.sub_self,widen,p,Bool.and_self];by_cases hg:2048<=v/\(v<55296\/57343<v)
     ·grind
     ·grind
  rw[t]at a;unfold Agree;rw[k,a,j];cases f:isC d && isC e with
  |false=>simp
  |true=>
   grind
theorem zmt (c:UInt8) (r:Str) (h:240<=c.toNat/\c.toNat<248):Agree (c::r):=by
 have g:=ztc _ h;have b:=zdj c r 4 (by omega) (by rw[g]) (.inl (by omega)) (by omega);have p:(c.toNat /32==6)=false:=by simp;omega
 have t:(c.toNat /16==14)=false:=by simp;omega
 have s:(c.toNat /8==30)=true:=by simp;omega
 have a:r.length<3->Agree (c::r):=by
  intro hl;have l:dec (c::r)=(65533,1):=by
   unfold dec;simp only[List.getD_cons_zero,List.length_cons];rw[if_neg (by omega),p,t,s];have w:decide (3<r.length+1)=false:=by simp;omega
   rw[w];simp
  exact .inl ⟨by rw[l],by rw[l],by rw[b,if_neg (by omega)]⟩
 match r,b,a with
 | [],_,a=>exact a (by simp)
 | [_],_,a=>exact a (by simp)
 | [_,_],_,a=>exact a (by simp)
 |d::e::f::q,b,_=>
  have x:begins ((c::d::e::f::q).take 4)=begins [c,d,e,f]:=rfl;obtain⟨v,u⟩:∃v,v=c.toNat%8*262144+d.toNat%64*4096+e.toNat%64*64+f.toNat%64:=⟨_,rfl⟩
  have m:dec (c::d::e::f::q)=if isC d && isC e && isC f then(if 65536<=v/\v<=1114111 then(v,4)else(65533,1))else(65533,1):=by
   unfold dec;simp only[List.getD_cons_zero,List.getD_cons_succ,List.length_cons];rw[if_neg (by omega),p,t,s,zdz,zdz,zdz,<-u];have k:decide (1<q.length+1+1+1+1)=true:=by simp
   have i:decide (2<q.length+1+1+1+1)=true:=by simp
   have j:decide (3<q.length+1+1+1+1)=true:=by simp
   rw[k,i,j];simp only[Bool.false_and,Bool.true_and,Bool.false_eq_true,if_false];cases hdd:isC d && isC e && isC f with
   |false=>simp
   |true=>
    simp only[if_true,zif];by_cases hg:65536<=v/\v<=1114111
    ·grind
    ·grind
  have n:begins [c,d,e,f]=if isC d && isC e && isC f then(if 65536<=v/\v<=1114111 then(v,4)else(0,0))else(0,0):=by
   rw[zcs,g,if_neg (by simp),zb6];cases l:isC d with
   |false=>rfl
   |true=>
    rw[if_pos rfl,zb6];cases he:isC e with
    |false=>rfl
    |true=>
     rw[if_pos rfl,zb6];cases hf:isC f with
     |false=>rfl
     |true=>
      have hd2:128<=d.toNat/\d.toNat<=191:=by simpa[isC]using l
      have he2:128<=e.toNat/\e.toNat<=191:=by simpa[isC]using he
      have hf2:128<=f.toNat/\f.toNat<=191:=by simpa[isC]using hf
      have o:64*(64*(64*(c.toNat-240)+(d.toNat-128))+(e.toNat-128))+(f.toNat-128)=v:=by omega
      simp only[if_true,goOn,List.length_nil,List.length_cons,Nat.zero_add,Nat.sub_self,widen,o,Bool.and_self];by_cases hg:65536<=v/\v<=1114111
      ·grind
      ·grind
  rw[x]at b;unfold Agree;rw[m,b,n];cases l:isC d && isC e && isC f with
  |false=>simp
  |true=>
   grind
theorem agree (s:Str) (h:s≠[]):Agree s:=by
 cases s with
 |nil=>exact absurd rfl h
 |cons c r=>
  have hlt:c.toNat<256:=c.toNat_lt;by_cases h1:c.toNat<128
  ·exact zqi c r h1
  ·by_cases h2:c.toNat<192\/248<=c.toNat
   ·exact zms c r (by omega) h2
   ·by_cases h3:c.toNat<224
    ·exact zqj c r (by omega)
    ·by_cases h4:c.toNat<240
     ·exact zju c r (by omega)
     ·exact zmt c r (by omega)
end Utf
end Go.Proofs.YtoigpackhninoaaGreatDoor
namespace Go.Proofs.YtoigpackhninoaaGreatDoor
namespace Utf
end Utf
end Go.Proofs.YtoigpackhninoaaGreatDoor

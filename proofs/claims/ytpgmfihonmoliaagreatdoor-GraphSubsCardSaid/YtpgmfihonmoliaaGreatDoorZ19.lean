import Derived.Test.YtpgmfihonmoliaaGreatDoorZ04
import Derived.Test.YtpgmfihonmoliaaGreatDoorGrCiv
import Derived.Test.YtpgmfihonmoliaaGreatDoorGrInsR4T
namespace Go.Proofs.YtpgmfihonmoliaaGreatDoor
namespace Gr
def ltS:Str->Str->Bool
 |_,[]=>false
 | [],_::_=>true
 |a::l,b::m=>decide (a.toNat<b.toNat) || (a==b && ltS l m)
def insR (t:Str):List Str->List Str
 | []=>[t]
 |y::r=>if ltS t y=true then y::insR t r else t::y::r
def insL (l:List Str) (t:Str):List Str:=(insR t l.reverse).reverse
def sortS (l:List Str):List Str:=l.foldl insL []
def printF (ns:List Nd):Nat->Nat->Str
 | 0,_=>[]
 |f+1,i=>match ns[i]? with
  |none=>[]
  |some x=>
   let es:=(List.range x.items.length).map (fun k=>(if x.kind=10 then printF ns f (x.keys.getD k 0)else[])++printF ns f (x.items.getD k 0))
   UInt8.ofNat (97+x.kind.toNat)::(Lib.decDigits x.text.length++58::(x.text++(Lib.decDigits x.items.length++40::((if x.kind=10/\x.ord=false then sortS es else es).flatten++41::(if x.ord=true then[33]else[])))))
theorem zh5 (t:Str) (l:List Str):(insR t l).Perm (t::l):=by
 induction l with
 |nil=>exact .refl _
 |cons y r ih=>
  unfold insR;split
  .grind
  .exact .refl _
theorem zow (l:List Str) (t:Str):(insL l t).Perm (t::l):=by
 unfold insL;exact(List.reverse_perm _).trans ((zh5 t _).trans ((List.reverse_perm l).cons t))
theorem zh6 (l:List Str):∀a,(l.foldl insL a).Perm (a++l):=by
 induction l with
 |nil=>intro a;simp
 |cons t l ih=>
  intro a;rw[List.foldl_cons];exact(ih _).trans (((zow a t).append_right l).trans (by simpa using(List.perm_middle (a:=t) (l₁:=a) (l₂:=l)).symm))
theorem za7 (l:List Str):(sortS l).Perm l:=by unfold sortS;simpa using zh6 l []
theorem zmb (a:Str):ltS a a=false:=by
 induction a with
 |nil=>rfl
 |cons a l ih=>simp[ltS,ih]
theorem zh7 {a b c:Str} (h1:ltS a b=true) (h2:ltS b c=true):ltS a c=true:=by
 induction a generalizing b c with
 |nil=>cases b<;>cases c<;>simp_all [ltS]
 |cons x a ih=>
  cases b with
  |nil=>simp[ltS]at h1
  |cons y b=>
   cases c with
   |nil=>simp[ltS]at h2
   |cons z c=>
    simp only[ltS,Bool.or_eq_true,decide_eq_true_eq,Bool.and_eq_true,beq_iff_eq]at h1 h2 ⊢;rcases h1 with h1|⟨rfl,h1⟩
    .grind
    .grind
theorem zh8 {a b:Str} (h1:ltS a b=false) (h2:ltS b a=false):a=b:=by
 induction a generalizing b with
 |nil=>cases b with
  |nil=>rfl
  |cons=>simp[ltS]at h1
 |cons x a ih=>
  cases b with
  |nil=>simp[ltS]at h2
  |cons y b=>
   simp only[ltS,Bool.or_eq_false_iff,decide_eq_false_iff_not,Bool.and_eq_false_iff]at h1 h2;have:x=y:=by apply UInt8.toNat_inj.1;omega
   subst this;have d:ltS a b=false:=by
    rcases h1.2 with h|h
    .simp at h
    .exact h
   have c:ltS b a=false:=by
    rcases h2.2 with h|h
    .simp at h
    .exact h
   rw[ih d c]
def Desc (l:List Str):Prop:=l.Pairwise (fun a b=>ltS a b=false)
theorem zox (t:Str) (l:List Str) (h:Desc l):Desc (insR t l):=by
 induction l with
 |nil=>simp[insR,Desc]
 |cons y r ih=>
  unfold Desc at h ih ⊢;rw[List.pairwise_cons]at h;unfold insR;split
  .rename_i hlt;rw[List.pairwise_cons];refine⟨fun z b=>?_,ih h.2⟩;have:=(zh5 t r).mem_iff.1 b;rcases List.mem_cons.1 this with rfl|h3
   .cases hc:ltS y z with
    |false=>rfl
    |true=>have:=zh7 hc hlt;rw[zmb]at this;cases this
   .exact h.1 z h3
  .rename_i hlt;have a:ltS t y=false:=by simpa using hlt
   rw[List.pairwise_cons,List.pairwise_cons];refine⟨fun z b=>?_,h⟩;rcases List.mem_cons.1 b with rfl|h3
   .exact a
   .cases hc:ltS t z with
    |false=>rfl
    |true=>
     have c:=h.1 z h3;cases hd:ltS z y with
     |true=>have:=zh7 hc hd;rw[a]at this;cases this
     |false=>have:=zh8 c hd;subst this;rw[a]at hc;cases hc
theorem zvm {l m:List Str} (hl:Desc l) (hm:Desc m) (hp:l.Perm m):l=m:=
 List.Perm.eq_of_pairwise (le:=fun a b=>ltS a b=false) (fun _ _ _ _ c d=>zh8 c d) hl hm hp
theorem zh9 (l:List Str):∀a,Desc a.reverse->Desc (l.foldl insL a).reverse:=by
 induction l with
 |nil=>intro a h;exact h
 |cons t l ih=>
  intro a h;rw[List.foldl_cons];apply ih;unfold insL;rw[List.reverse_reverse];exact zox t _ h
theorem zsm {l m:List Str} (h:l.Perm m):sortS l=sortS m:=by
 have b:=zh9 l [] (by simp[Desc]);have a:=zh9 m [] (by simp[Desc]);have c:((sortS l).reverse).Perm ((sortS m).reverse):=(List.reverse_perm _).trans (((za7 l).trans (h.trans (za7 m).symm)).trans (List.reverse_perm _).symm);have:=congrArg List.reverse (zvm b a c);simpa[sortS]using this
theorem zoy {l m:List Str} (h:sortS l=sortS m):l.Perm m:=(za7 l).symm.trans (h▸za7 m)
def ents (ns:List Nd) (f:Nat) (x:Nd):List Str:=(List.range x.items.length).map (fun k=>(if x.kind=10 then printF ns f (x.keys.getD k 0)else[])++printF ns f (x.items.getD k 0))
def entS (ns:List Nd) (f:Nat) (x:Nd):List Str:=if x.kind=10/\x.ord=false then sortS (ents ns f x)else ents ns f x
theorem zao {ns:List Nd} {f i:Nat} {x:Nd} (h:ns[i]? =some x):printF ns (f+1) i=
 UInt8.ofNat (97+x.kind.toNat)::(Lib.decDigits x.text.length++58::(x.text++(Lib.decDigits x.items.length++40::((entS ns f x).flatten++41::(if x.ord=true then[33]else[]))))):=by
 unfold printF entS ents;rw[h]
theorem zia {a b:Nat} {r r':Str} {c:UInt8} (hc:dig c=false) (h:Lib.decDigits a++c::r=Lib.decDigits b++c::r'):a=b/\r=r':=by
 have e:=zfy (p:=dig) (Lib.decDigits a) c r (fun x d=>List.all_eq_true.1 (zaj a) x d) hc;have f:=zfy (p:=dig) (Lib.decDigits b) c r' (fun x d=>List.all_eq_true.1 (zaj b) x d) hc;rw[h]at e;have i:Lib.decDigits a=Lib.decDigits b:=e.1.symm.trans f.1;have g:c::r=c::r':=e.2.symm.trans f.2;refine⟨?_,by injection g⟩;have:=congrArg val i;rwa[zak,zak]at this
def NodesOk (ns:List Nd):Prop:=∀x∈ns,0<=x.kind/\x.kind<=11/\(x.kind=10->x.keys.length=x.items.length)
def Tall' (ns:List Nd):Nat->Nat->Prop
 | 0,_=>False
 |f+1,i=>∀x∈succ ns i,Tall' ns f x
structure TOk (ns:List Nd) (f i:Nat):Prop where
 lt:i<ns.length
 tall:Tall' ns f i
def no33 (r:Str):Prop:=r.head?≠some 33
def ElemOk (ns:List Nd) (f:Nat) (m:Bool) (e:Str):Prop:=if m=true then∃a b,TOk ns f a/\TOk ns f b/\e=printF ns f a++printF ns f b else∃b,TOk ns f b/\e=printF ns f b
section
variable {ns:List Nd}
theorem za1 (hok:NodesOk ns) {f i:Nat} (h:TOk ns f i) (r:Str):no33 (printF ns f i++r)/\(printF ns f i++r)≠[]:=by
 obtain⟨a,b⟩:=h;cases f with
 |zero=>exact absurd b id
 |succ f=>
  rw[zao (List.getElem?_eq_getElem a)];refine⟨?_,by simp⟩;unfold no33;have hk:=hok _ (List.getElem_mem a);intro h;simp only[List.cons_append,List.head?_cons,Option.some.injEq]at h;have:=congrArg UInt8.toNat h;rw[UInt8.toNat_ofNat',Nat.mod_eq_of_lt (by omega)]at this;have h33:(33:UInt8).toNat=33:=rfl;omega
theorem zib (hok:NodesOk ns) {f:Nat} {m:Bool} {e:Str} (h:ElemOk ns f m e) (r:Str):no33 (e++r):=by
 unfold ElemOk at h;split at h
 .obtain⟨a,b,c,_,rfl⟩:=h;rw[List.append_assoc];exact(za1 hok c _).1
 .obtain⟨b,d,rfl⟩:=h;exact(za1 hok d _).1
theorem zic {f:Nat} {m:Bool} (hh:∀e,ElemOk ns f m e->∀r,no33 (e++r)) (L:List Str) (hL:∀e∈L,ElemOk ns f m e) (q:Str):no33 (L.flatten++41::q):=by
 cases L with
 |nil=>simp[no33]
 |cons e L=>
  grind
theorem zoz (hok:NodesOk ns) (hr:Refs ns) {f i:Nat} (hi:i<ns.length) (ht:Tall' ns (f+1) i):∀e∈entS ns f ns[i],ElemOk ns f (decide (ns[i].kind=10)) e:=by
 have c:∀e∈entS ns f ns[i],e∈ents ns f ns[i]:=by
  intro e a;unfold entS at a;split at a
  .exact(za7 _).mem_iff.1 a
  .exact a
 intro e a;have b:=c e a;unfold ents at b;obtain⟨k,g,rfl⟩:=List.mem_map.1 b;have hkl:=List.mem_range.1 g;have d:=hok _ (List.getElem_mem hi);have hs:succ ns i=ns[i].keys++ns[i].items:=by unfold succ;rw[List.getElem?_eq_getElem hi]
 have hit:ns[i].items.getD k 0∈succ ns i:=by
  grind
 have ok2:∀x∈succ ns i,TOk ns f x:=fun x d=>⟨hr.succ i x d,ht x d⟩
 unfold ElemOk;by_cases h10:ns[i].kind=10
 .grind
 .grind
def SplitAt (ns:List Nd) (f:Nat):Prop:=∀(i g j:Nat) (r r':Str),TOk ns f i->TOk ns g j->no33 r->no33 r'->printF ns f i++r=printF ns g j++r'->printF ns f i=printF ns g j/\r=r'
theorem zmc (hok:NodesOk ns) {f g:Nat} {m:Bool} (ih:SplitAt ns f) {e e' r r':Str} (h:ElemOk ns f m e) (h':ElemOk ns g m e') (hr1:no33 r) (hr2:no33 r') (he:e++r=e'++r'):e=e'/\r=r':=by
 unfold ElemOk at h h';split at h
 .rename_i hm;rw[if_pos hm]at h';obtain⟨a,b,p,d,rfl⟩:=h;obtain⟨q,j,i,c,rfl⟩:=h';rw[List.append_assoc,List.append_assoc]at he;obtain⟨o,l⟩:=ih a g q _ _ p i (za1 hok d _).1 (za1 hok c _).1 he;obtain⟨k,n⟩:=ih b g j _ _ d c hr1 hr2 l;exact⟨by rw[o,k],n⟩
 .rename_i hm;rw[if_neg hm]at h';obtain⟨b,d,rfl⟩:=h;obtain⟨j,c,rfl⟩:=h';exact ih b g j _ _ d c hr1 hr2 he
theorem zmd (hok:NodesOk ns) {f g:Nat} {m:Bool} (ih:SplitAt ns f):∀(L M:List Str) (q q':Str),L.length=M.length->(∀e∈L,ElemOk ns f m e)->(∀e∈M,ElemOk ns g m e)->L.flatten++41::q=M.flatten++41::q'->L=M/\q=q':=by
 intro L
 induction L with
 |nil=>
  grind
 |cons e L ihL=>
  intro M q q' h j i a;cases M with
  |nil=>simp at h
  |cons e' M=>
   rw[List.flatten_cons,List.flatten_cons,List.append_assoc,List.append_assoc]at a;have c:=fun x d=>j x (.tail _ d)
   have b:=fun x d=>i x (.tail _ d)
   obtain⟨l,o⟩:=zmc hok ih (j e (.head _)) (i e' (.head _)) (zic (fun e a r=>zib hok a r) L c q) (zic (fun e a r=>zib hok a r) M b q') a;obtain⟨n,k⟩:=ihL M q q' (by simpa using h) c b o;exact⟨by rw[l,n],k⟩
theorem zkr (f:Nat) (x:Nd):(entS ns f x).length=x.items.length:=by
 unfold entS;split
 .rw[(za7 _).length_eq];simp[ents]
 .simp[ents]
theorem zo0 {a b:Bool} {r r':Str} (h1:no33 r) (h2:no33 r') (h:(if a=true then[33]else[])++r=(if b=true then[33]else[])++r'):a=b/\r=r':=by
 cases a<;>cases b<;>simp at h ⊢
 .exact h
 .rw[h]at h1;simp[no33]at h1
 .rw[<-h]at h2;simp[no33]at h2
 .exact h
theorem ze5 (hok:NodesOk ns) (hr:Refs ns) {f g i j:Nat} (ih:SplitAt ns f) (hi:TOk ns (f+1) i) (hj:TOk ns (g+1) j) {r r':Str} (h1:no33 r) (h2:no33 r') (h:printF ns (f+1) i++r=printF ns (g+1) j++r'):
 (ns[i]'hi.lt).kind=(ns[j]'hj.lt).kind/\(ns[i]'hi.lt).text=(ns[j]'hj.lt).text/\(ns[i]'hi.lt).ord=(ns[j]'hj.lt).ord/\(ns[i]'hi.lt).items.length=(ns[j]'hj.lt).items.length/\entS ns f (ns[i]'hi.lt)=entS ns g (ns[j]'hj.lt)/\r=r':=by
 have t:=zoz hok hr hi.lt hi.tall;have m:=zoz hok hr hj.lt hj.tall;rw[zao (List.getElem?_eq_getElem hi.lt),zao (List.getElem?_eq_getElem hj.lt)]at h;have k1:=hok _ (List.getElem_mem hi.lt);have k2:=hok _ (List.getElem_mem hj.lt);have o:=zkr (ns:=ns) f (ns[i]'hi.lt);have q:=zkr (ns:=ns) g (ns[j]'hj.lt);generalize ns[i]'hi.lt=x at *;generalize ns[j]'hj.lt=y at *;simp only[List.cons_append,List.append_assoc]at h;injection h with h3 h4
 have s:=congrArg UInt8.toNat h3;rw[UInt8.toNat_ofNat',UInt8.toNat_ofNat',Nat.mod_eq_of_lt (by omega),Nat.mod_eq_of_lt (by omega)]at s;have a:x.kind=y.kind:=by omega
 obtain⟨u,p⟩:=zia (by decide) h4;obtain⟨n,v⟩:=List.append_inj p u;obtain⟨b,e⟩:=zia (by decide) v;rw[<-a]at m;obtain⟨c,l⟩:=zmd hok ih _ _ _ _ (by rw[o,q,b]) t m e;obtain⟨k,d⟩:=zo0 h1 h2 l;exact⟨a,n,k,b,c,d⟩
theorem zc8 (hok:NodesOk ns) (hr:Refs ns):∀f,SplitAt ns f:=by
 intro f
 induction f with
 |zero=>intro i g j r m k;exact absurd k.tall id
 |succ f ih=>
  intro i g j r m k l p o h;cases g with
  |zero=>exact absurd l.tall id
  |succ g=>
   obtain⟨a,b,c,d,e,n⟩:=ze5 hok hr ih k l p o h;refine⟨?_,n⟩;rw[zao (List.getElem?_eq_getElem k.lt),zao (List.getElem?_eq_getElem l.lt),a,b,c,d,e]
theorem zgr (hok:NodesOk ns) (hr:Refs ns):∀(f i j:Nat),TOk ns f i->TOk ns f j->printF ns f i=printF ns f j->sameF ns f i j=true:=by
 intro f
 induction f with
 |zero=>intro i j n;exact absurd n.tall id
 |succ f ih=>
  intro i j n t h;obtain⟨a,b,c,d,e,_⟩:=ze5 hok hr (zc8 hok hr f) n t (r:=[]) (r':=[]) (by simp[no33]) (by simp[no33]) (by rw[h]);have v:∀x∈succ ns i,TOk ns f x:=fun x B=>⟨hr.succ i x B,n.tall x B⟩
  have u:∀x∈succ ns j,TOk ns f x:=fun x B=>⟨hr.succ j x B,t.tall x B⟩
  have s1:succ ns i=(ns[i]'n.lt).keys++(ns[i]'n.lt).items:=by unfold succ;rw[List.getElem?_eq_getElem n.lt]
  have s2:succ ns j=(ns[j]'t.lt).keys++(ns[j]'t.lt).items:=by unfold succ;rw[List.getElem?_eq_getElem t.lt]
  rw[s1]at v;rw[s2]at u;have R:=hok _ (List.getElem_mem n.lt);have M:=hok _ (List.getElem_mem t.lt);unfold sameF;rw[List.getElem?_eq_getElem n.lt,List.getElem?_eq_getElem t.lt];generalize ns[i]'n.lt=x at *;generalize ns[j]'t.lt=y at *;simp only;rw[if_neg (by rintro(h|h|h|h)<;>contradiction)];have S:∀k,k<x.items.length->TOk ns f (x.items.getD k 0):=fun k m=>v _ (List.mem_append_right _ (by rw[List.getD_eq_getElem?_getD,List.getElem?_eq_getElem m];exact List.getElem_mem m))
  have P:∀k,k<y.items.length->TOk ns f (y.items.getD k 0):=fun k m=>u _ (List.mem_append_right _ (by rw[List.getD_eq_getElem?_getD,List.getElem?_eq_getElem m];exact List.getElem_mem m))
  have F:x.kind=10->∀k,k<x.items.length->TOk ns f (x.keys.getD k 0):=fun o k m=>v _ (List.mem_append_left _ (by rw[List.getD_eq_getElem?_getD,List.getElem?_eq_getElem (by rw[R.2.2 o];exact m)];exact List.getElem_mem _))
  have I:y.kind=10->∀k,k<y.items.length->TOk ns f (y.keys.getD k 0):=fun o k m=>u _ (List.mem_append_left _ (by rw[List.getD_eq_getElem?_getD,List.getElem?_eq_getElem (by rw[M.2.2 o];exact m)];exact List.getElem_mem _))
  have K:∀{a b a' b':Nat},TOk ns f a->TOk ns f b->TOk ns f a'->TOk ns f b'->printF ns f a++printF ns f b=printF ns f a'++printF ns f b'->sameF ns f a a'=true/\sameF ns f b b'=true:=by
   intro a b a' b' L N E C w;obtain⟨D,z⟩:=zc8 hok hr f a f a' _ _ L E (by simpa using(za1 hok N []).1) (by simpa using(za1 hok C []).1) w;exact⟨ih a a' L E D,ih b b' N C z⟩
  by_cases hm:x.kind=10/\x.ord=false
  .rw[if_pos hm];unfold entS at e;rw[if_pos hm,if_pos ⟨a▸hm.1,c▸hm.2⟩]at e;have Q:=zoy e;rw[List.all_eq_true];intro p G;obtain⟨k,m,A⟩:=List.mem_iff_getElem.1 G;have g:k<x.items.length:=by rw[List.length_zip]at m;omega
   have H:k<x.keys.length:=by rw[List.length_zip]at m;omega
   rw[List.getElem_zip]at A;subst A;have s:(printF ns f (x.keys.getD k 0)++printF ns f (x.items.getD k 0))∈ents ns f y:=by
    refine Q.mem_iff.1 ?_;unfold ents;exact List.mem_map.2 ⟨k,List.mem_range.2 g,by rw[if_pos hm.1]⟩
   unfold ents at s;obtain⟨l,O,w⟩:=List.mem_map.1 s;have q:=List.mem_range.1 O;rw[if_pos (a▸hm.1)]at w;obtain⟨D,z⟩:=K (F hm.1 k g) (S k g) (I (a▸hm.1) l q) (P l q) w.symm;have J:l<y.keys.length:=by rw[M.2.2 (a▸hm.1)];exact q
   rw[List.any_eq_true];refine⟨(y.keys[l],y.items[l]),List.mem_iff_getElem.2 ⟨l,by rw[List.length_zip];omega,by rw[List.getElem_zip]⟩,?_⟩;rw[List.getD_eq_getElem?_getD,List.getElem?_eq_getElem H,List.getD_eq_getElem?_getD,List.getElem?_eq_getElem J]at D;rw[List.getD_eq_getElem?_getD,List.getElem?_eq_getElem g,List.getD_eq_getElem?_getD,List.getElem?_eq_getElem q]at z;simp only[Option.getD_some]at D z;rw[D,z];rfl
  .rw[if_neg hm];unfold entS at e;rw[if_neg hm,if_neg (by rw[<-a,<-c];exact hm)]at e;unfold ents at e;rw[List.all_eq_true];intro k m;have g:=List.mem_range.1 m;have w:((List.range x.items.length).map (fun k=>(if x.kind=10 then printF ns f (x.keys.getD k 0)else[])++printF ns f (x.items.getD k 0)))[k]? =((List.range y.items.length).map (fun k=>(if y.kind=10 then printF ns f (y.keys.getD k 0)else[])++printF ns f (y.items.getD k 0)))[k]? :=by rw[e]
   rw[List.getElem?_map,List.getElem?_map,List.getElem?_range g,List.getElem?_range (d▸g)]at w;simp only[Option.map_some,Option.some.injEq]at w;by_cases o:x.kind=10
   .grind
   .grind
end
end Gr
namespace Gr
def dupS:List Str->Bool
 | []=>false
 |x::l=>l.any (fun y=>y==x) || dupS l
def rtwice (ns:List Nd) (f:Nat):Bool:=ns.any (fun x=>dupS (x.keys.map (printF ns f)))
theorem zdy (l:List Str):dupS l=false↔l.Nodup:=by
 induction l with
 |nil=>simp[dupS]
 |cons x l ih=>
  unfold dupS;rw[Bool.or_eq_false_iff,ih,List.nodup_cons];constructor
  .grind
  .grind
theorem ze6 {α:Type} [DecidableEq α]:∀(l m:List α),l.Nodup->(∀x∈l,x∈m)->m.length<=l.length->l.Perm m:=by
 intro l
 induction l with
 |nil=>intro m _ _ c;cases m with
  |nil=>exact .refl _
  |cons=>simp at c
 |cons a l ih=>
  intro m f i c;rw[List.nodup_cons]at f;have j:=i a (.head _);have g:=List.perm_cons_erase j;have b:=g.length_eq;rw[List.length_cons]at b;refine((ih (m.erase a) f.2 (fun x h=>?_) (by rw[List.length_cons]at c;omega)).cons a).trans g.symm;have d:=i x (.tail _ h);exact(List.mem_erase_of_ne (fun e=>f.1 (by rw[<-e];exact h))).2 d
section
variable {ns:List Nd}
theorem zme (hok:NodesOk ns) (hr:Refs ns):∀(f g i:Nat),TOk ns f i->TOk ns g i->printF ns f i=printF ns g i:=by
 intro f
 induction f with
 |zero=>intro g i a;exact absurd a.tall id
 |succ f ih=>
  intro g i a d;cases g with
  |zero=>exact absurd d.tall id
  |succ g=>
   rw[zao (List.getElem?_eq_getElem a.lt),zao (List.getElem?_eq_getElem a.lt)];have l:ents ns f (ns[i]'a.lt)=ents ns g (ns[i]'a.lt):=by
    have s1:succ ns i=(ns[i]'a.lt).keys++(ns[i]'a.lt).items:=by unfold succ;rw[List.getElem?_eq_getElem a.lt]
    have k1:=hok _ (List.getElem_mem a.lt);have e:∀x∈succ ns i,printF ns f x=printF ns g x:=fun x c=>ih g x ⟨hr.succ i x c,a.tall x c⟩ ⟨hr.succ i x c,d.tall x c⟩
    rw[s1]at e;generalize ns[i]'a.lt=x at *;unfold ents;apply List.map_congr_left;intro k h;have b:=List.mem_range.1 h;have j:=e (x.items.getD k 0) (List.mem_append_right _ (by rw[List.getD_eq_getElem?_getD,List.getElem?_eq_getElem b];exact List.getElem_mem b));by_cases h10:x.kind=10
    .grind
    .rw[if_neg h10,if_neg h10,j]
   unfold entS;rw[l]
theorem za5 {l:List Nat} {k:Nat} (h:k<l.length):l.getD k 0=l[k]:=by rw[List.getD_eq_getElem?_getD,List.getElem?_eq_getElem h];rfl
theorem zgs (hok:NodesOk ns) (hr:Refs ns) (F:Nat) (hF:∀k∈allKeys ns,TOk ns F k) (hd:∀x∈ns,(x.keys.map (printF ns F)).Nodup):∀(f i j:Nat),TOk ns f i->TOk ns f j->sameF ns f i j=true->printF ns f i=printF ns f j:=by
 intro f
 induction f with
 |zero=>intro i j m;exact absurd m.tall id
 |succ f ih=>
  intro i j m o h;have g:∀x∈succ ns i,TOk ns f x:=fun x C=>⟨hr.succ i x C,m.tall x C⟩
  have n:∀x∈succ ns j,TOk ns f x:=fun x C=>⟨hr.succ j x C,o.tall x C⟩
  have s1:succ ns i=(ns[i]'m.lt).keys++(ns[i]'m.lt).items:=by unfold succ;rw[List.getElem?_eq_getElem m.lt]
  have s2:succ ns j=(ns[j]'o.lt).keys++(ns[j]'o.lt).items:=by unfold succ;rw[List.getElem?_eq_getElem o.lt]
  have S:=hok _ (List.getElem_mem m.lt);have U:=hok _ (List.getElem_mem o.lt);have Q:=hd _ (List.getElem_mem m.lt);have L:∀k∈(ns[i]'m.lt).keys,printF ns F k=printF ns f k:=fun k s=>by
   refine zme hok hr F f k (hF k (List.mem_flatMap.2 ⟨_,List.getElem_mem m.lt,s⟩)) (g k ?_);rw[s1];exact List.mem_append_left _ s
  rw[s1]at g;rw[s2]at n;unfold sameF at h;rw[List.getElem?_eq_getElem m.lt,List.getElem?_eq_getElem o.lt]at h;rw[zao (List.getElem?_eq_getElem m.lt),zao (List.getElem?_eq_getElem o.lt)];generalize ns[i]'m.lt=x at *;generalize ns[j]'o.lt=y at *;simp only at h;split at h
  .cases h
  .rename_i hne;have a:x.kind=y.kind:=Decidable.by_contra fun e=>hne (.inl e)
   have b:x.text=y.text:=Decidable.by_contra fun e=>hne (.inr (.inl e))
   have c:x.ord=y.ord:=Decidable.by_contra fun e=>hne (.inr (.inr (.inl e)))
   have d:x.items.length=y.items.length:=Decidable.by_contra fun e=>hne (.inr (.inr (.inr e)))
   have G:entS ns f x=entS ns f y:=by
    unfold entS;split at h
    .rename_i hm;rw[if_pos hm,if_pos ⟨a▸hm.1,c▸hm.2⟩];apply zsm;have lx:=S.2.2 hm.1;have ly:=U.2.2 (a▸hm.1);refine ze6 _ _ ?_ ?_ (by simp[ents,d])
     .unfold ents;simp only[if_pos hm.1];unfold List.Nodup;rw[List.pairwise_map];have r:=Q;unfold List.Nodup at r;rw[List.pairwise_map,List.pairwise_iff_getElem]at r;rw[List.pairwise_iff_getElem];intro p q O P H G;have hpl:p<x.items.length:=by simpa using O
      have hql:q<x.items.length:=by simpa using P
      rw[List.getElem_range,List.getElem_range]at G;have R:TOk ns f (x.keys.getD p 0):=g _ (List.mem_append_left _ (by rw[za5 (by omega)];exact List.getElem_mem _));have T:TOk ns f (x.keys.getD q 0):=g _ (List.mem_append_left _ (by rw[za5 (by omega)];exact List.getElem_mem _));have I:TOk ns f (x.items.getD p 0):=g _ (List.mem_append_right _ (by rw[za5 (by omega)];exact List.getElem_mem _));have J:TOk ns f (x.items.getD q 0):=g _ (List.mem_append_right _ (by rw[za5 (by omega)];exact List.getElem_mem _));obtain⟨E,_⟩:=zc8 hok hr f _ f _ _ _ R T (by simpa using(za1 hok I []).1) (by simpa using(za1 hok J []).1) G;rw[za5 (by omega),za5 (by omega)]at E;have w:=r p q (by omega) (by omega) H;apply w;rw[L _ (List.getElem_mem _),L _ (List.getElem_mem _)];exact E
     .intro e A;unfold ents at A ⊢;obtain⟨k,s,rfl⟩:=List.mem_map.1 A;have t:=List.mem_range.1 s;rw[List.all_eq_true]at h;have z:=h (x.keys[k],x.items[k]) (List.mem_iff_getElem.2 ⟨k,by rw[List.length_zip];omega,by rw[List.getElem_zip]⟩);rw[List.any_eq_true]at z;obtain⟨⟨u,v⟩,K,D⟩:=z;obtain⟨l,N,B⟩:=List.mem_iff_getElem.1 K;rw[List.length_zip]at N;rw[List.getElem_zip]at B;injection B with hu hv
      rw[Bool.and_eq_true]at D;simp only at D;have E:=ih _ _ (g _ (List.mem_append_left _ (List.getElem_mem _))) (n u (List.mem_append_left _ (by rw[<-hu];exact List.getElem_mem _))) D.1;have M:=ih _ _ (g _ (List.mem_append_right _ (List.getElem_mem _))) (n v (List.mem_append_right _ (by rw[<-hv];exact List.getElem_mem _))) D.2;refine List.mem_map.2 ⟨l,List.mem_range.2 (by omega),?_⟩;rw[if_pos hm.1,if_pos (a▸hm.1),za5 (by omega),za5 (by omega),za5 (by omega),za5 (by omega),hu,hv,E,M]
    .rename_i hm;rw[if_neg hm,if_neg (by rw[<-a,<-c];exact hm)];unfold ents;rw[<-d];apply List.map_congr_left;intro k s;have t:=List.mem_range.1 s;rw[List.all_eq_true]at h;have z:=h k s;rw[Bool.and_eq_true,Bool.or_eq_true]at z;have M:=ih _ _ (g _ (List.mem_append_right _ (by rw[za5 t];exact List.getElem_mem _))) (n _ (List.mem_append_right _ (by rw[za5 (d▸t)];exact List.getElem_mem _))) z.2;by_cases h10:x.kind=10
     .grind
     .grind
   rw[a,b,c,d,G]
theorem zgt (hok:NodesOk ns) (hr:Refs ns) (F:Nat):∀L:List Nat,(∀k∈L,TOk ns F k)->dupS (L.map (printF ns F))=true->twice1 ns F L=true:=by
 intro L
 induction L with
 |nil=>intro _ h;cases h
 |cons x l ih=>
  intro b h;rw[List.map_cons]at h;unfold dupS at h;unfold twice1;rw[Bool.or_eq_true]at h ⊢;rcases h with h|h
  .left;rw[List.any_eq_true]at h ⊢;obtain⟨s,d,c⟩:=h;obtain⟨y,a,rfl⟩:=List.mem_map.1 d;exact⟨y,a,zgr hok hr F y x (b y (.tail _ a)) (b x (.head _)) (by simpa using c)⟩
  .grind
theorem zo1 (F:Nat):∀L:List Nat,(∀a∈L,∀b∈L,sameF ns F a b=true->printF ns F a=printF ns F b)->dupS (L.map (printF ns F))=false->twice1 ns F L=false:=by
 intro L
 induction L with
 |nil=>intro _ _;rfl
 |cons x l ih=>
  intro e h;rw[List.map_cons]at h;unfold dupS at h;unfold twice1;rw[Bool.or_eq_false_iff]at h ⊢;refine⟨?_,ih (fun a f b j=>e a (.tail _ f) b (.tail _ j)) h.2⟩;rw[List.any_eq_false];intro y c i;have g:=e y (.tail _ c) x (.head _) i;have d:=h.1;rw[List.any_eq_false]at d;exact d _ (List.mem_map.2 ⟨y,c,rfl⟩) (by simp[g])
theorem zks (hok:NodesOk ns) (hr:Refs ns) (F:Nat) (hF:∀k∈allKeys ns,TOk ns F k):twice ns F=rtwice ns F:=by
 have d:∀x∈ns,∀k∈x.keys,TOk ns F k:=fun x c k d=>hF k (List.mem_flatMap.2 ⟨x,c,d⟩)
 cases h:rtwice ns F with
 |true=>
  unfold rtwice at h;obtain⟨x,c,i⟩:=List.any_eq_true.1 h;unfold twice;exact List.any_eq_true.2 ⟨x,c,zgt hok hr F _ (d x c) i⟩
 |false=>
  unfold rtwice at h;have e:∀x∈ns,dupS (x.keys.map (printF ns F))=false:=fun x c=>by simpa using List.any_eq_false.1 h x c
  unfold twice;rw[List.any_eq_false];intro x c;rw[Bool.not_eq_true];exact zo1 F _ (fun a g b l j=>zgs hok hr F hF (fun z f=>(zdy _).1 (e z f)) F a b (d x c a g) (d x c b l) j) (e x c)
end
end Gr
open _root_.Go.Proofs.Tryz
open _root_.Go.Lib (hid)
set_option maxRecDepth 100000
set_option maxHeartbeats 16000000
open Go.RowKit
theorem zit (sh y m d h mi c zh zm nanos z:Int) (hv:Cal.vld y m d=true) (h0:0<=h) (h1:h<=1000) (h2:0<=mi) (h3:mi<=1000) (h4:0<=c) (h5:c<=1000) (h6:0<=zh) (h7:zh<=1000) (h8:0<=zm) (h9:zm<=1000) (w:World):
 Calls prog 61 #[.agg #[.int .i64 sh,.int .i64 y,.int .i64 m,.int .i64 d,.int .i64 h,.int .i64 mi,.int .i64 c,.int .i64 zh,.int .i64 zm,.int .i64 nanos,.int .u8 z]] w fun e w'=>e=.returned (.int .i64 (if z=43 then Cal.num y m d*86400+h*3600+mi*60+c-(zh*3600+zm*60)else Cal.num y m d*86400+h*3600+mi*60+c+(zh*3600+zm*60)))/\Below w.heap.size w w':=by
 have v:=hid (fun W=>zlc y m d hv W);have x:=Cal.zza hv;obtain⟨q,u⟩:=ex (Cal.num y m d)
 rw[u]at v x ⊢;obtain⟨hb0,hb1⟩:=x;clear u hv;obtain⟨r,s⟩:=ex (if z=43 then q*86400+h*3600+mi*60+c-(zh*3600+zm*60)else q*86400+h*3600+mi*60+c+(zh*3600+zm*60))
 have t:=hid s;rw[s];clear s;go_enter func61,ntmps61;go_upto_region 1 with fail;obtain⟨f,g⟩:=ex w.heap.size
 obtain⟨l,k⟩:∃l,l=w.alloc (.cells #[.int .i64 sh,.int .i64 y,.int .i64 m,.int .i64 d,.int .i64 h,.int .i64 mi,.int .i64 c,.int .i64 zh,.int .i64 zm,.int .i64 nanos,.int .u8 z] 96):=⟨_,rfl⟩
 have b:Hid (Blk l f 96 #[.int .i64 sh,.int .i64 y,.int .i64 m,.int .i64 d,.int .i64 h,.int .i64 mi,.int .i64 c,.int .i64 zh,.int .i64 zm,.int .i64 nanos,.int .u8 z]/\Below f w l):=hid (by rw[k,<-g];exact⟨Blk.new _ _ _,(Below.refl _ _).alloc (Nat.le_refl _) _⟩);have n:=hid g;(try rw[<-k]);(try rw[g]);clear k g;have A:l.cell? ⟨f,1,none⟩=some (.int .i64 y):=b.out.1.cell 1;have C:l.cell? ⟨f,2,none⟩=some (.int .i64 m):=b.out.1.cell 2;have B:l.cell? ⟨f,3,none⟩=some (.int .i64 d):=b.out.1.cell 3;go_wp2_with fail;refine(v.out _).mono ?_;rintro e i ⟨rfl,j⟩;have a:Hid (Blk i f 96 #[.int .i64 sh,.int .i64 y,.int .i64 m,.int .i64 d,.int .i64 h,.int .i64 mi,.int .i64 c,.int .i64 zh,.int .i64 zm,.int .i64 nanos,.int .u8 z]/\Below f w i):=hid ⟨b.out.1.below j b.out.1.lt,b.out.2.trans (j.mono (Nat.le_of_lt b.out.1.lt))⟩;clear j A C B;have q4:i.cell? ⟨f,4,none⟩=some (.int .i64 h):=a.out.1.cell 4;have q5:i.cell? ⟨f,5,none⟩=some (.int .i64 mi):=a.out.1.cell 5;have q6:i.cell? ⟨f,6,none⟩=some (.int .i64 c):=a.out.1.cell 6;have q7:i.cell? ⟨f,7,none⟩=some (.int .i64 zh):=a.out.1.cell 7;have q8:i.cell? ⟨f,8,none⟩=some (.int .i64 zm):=a.out.1.cell 8;have q10:i.cell? ⟨f,10,none⟩=some (.int .u8 z):=a.out.1.cell 10;by_cases hz:z=43
 .have p:(z==43)=true:=by simpa using hz
  have o:Hid (r=q*86400+h*3600+mi*60+c-(zh*3600+zm*60)):=hid (by rw[<-t.out,if_pos hz]);clear hz;go_wp2;go_ret;rw[o.out,n.out];exact⟨rfl,a.out.2⟩
 .have p:(z==43)=false:=by simpa using hz
  have o:Hid (r=q*86400+h*3600+mi*60+c+(zh*3600+zm*60)):=hid (by rw[<-t.out,if_neg hz]);go_wp2;go_ret;rw[o.out,n.out];exact⟨rfl,a.out.2⟩
def prngB (sh:Int) (y m d h mi c zh zm:Nat):Bool:=(decide (sh=2) || Cal.vld y m d) && decide (h<=23) && decide (mi<=59) && decide (c<=59) && decide (zh<=23) && decide (zm<=59)
theorem zfe (sh:Int) (y m d h mi c zh zm:Nat) (nanos z:Int) (w:World):
 Calls prog 59 #[.agg #[.int .i64 sh,.int .i64 (y:Int),.int .i64 (m:Int),.int .i64 (d:Int),.int .i64 (h:Int),.int .i64 (mi:Int),.int .i64 (c:Int),.int .i64 (zh:Int),.int .i64 (zm:Int),.int .i64 nanos,.int .u8 z]] w fun e w'=>e=.returned (.bool (prngB sh y m d h mi c zh zm))/\Below w.heap.size w w':=by
 have V:=hid (fun q W=>zlc (y:Int) (m:Int) (d:Int) q W);have X:=hid (fun q W=>zwb (y:Int) (m:Int) (d:Int) q W);obtain⟨r,R⟩:=ex (prngB sh y m d h mi c zh zm)
 have C:=hid R;rw[R];clear R;go_enter func59,ntmps59;go_upto_region 1 with fail;obtain⟨i,v⟩:=ex w.heap.size
 obtain⟨J,D⟩:∃J,J=w.alloc (.cells #[.int .i64 sh,.int .i64 (y:Int),.int .i64 (m:Int),.int .i64 (d:Int),.int .i64 (h:Int),.int .i64 (mi:Int),.int .i64 (c:Int),.int .i64 (zh:Int),.int .i64 (zm:Int),.int .i64 nanos,.int .u8 z] 96):=⟨_,rfl⟩
 have b:Hid (Blk J i 96 #[.int .i64 sh,.int .i64 (y:Int),.int .i64 (m:Int),.int .i64 (d:Int),.int .i64 (h:Int),.int .i64 (mi:Int),.int .i64 (c:Int),.int .i64 (zh:Int),.int .i64 (zm:Int),.int .i64 nanos,.int .u8 z]/\Below i w J):=hid (by rw[D,<-v];exact⟨Blk.new _ _ _,(Below.refl _ _).alloc (Nat.le_refl _) _⟩);have j:=hid v;(try rw[<-D]);(try rw[v]);clear D v;obtain⟨N,o⟩:=ex (decide (sh=2))
 have L:=hid o;go_cut [10] (fun s10 M=>s10=.bool (!N)/\M=J)
 case first=>
  have q0:J.cell? ⟨i,0,none⟩=some (.int .i64 sh):=b.out.1.cell 0;have hbe:(sh != 2)=!N:=by rw[<-o,bne];congr 1
  have hbe2:(sh==2)=N:=by rw[<-o];rfl
  clear o;go_wp2;go_meet
  first|exact⟨rfl,rfl⟩|exact⟨by simp,rfl⟩
 case rest=>
 obtain⟨rfl,rfl⟩:=hcut;refine(‹∀(a:Act) (w_1:World),Code.wp prog _ _ a w_1->_›) _ _ ?_;go_cut [] (fun M=>Hid ((sh=2\/Cal.vld y m d=true)/\Blk M i 96 #[.int .i64 sh,.int .i64 (y:Int),.int .i64 (m:Int),.int .i64 (d:Int),.int .i64 (h:Int),.int .i64 (mi:Int),.int .i64 (c:Int),.int .i64 (zh:Int),.int .i64 (zm:Int),.int .i64 nanos,.int .u8 z]/\Below i w M))
 case first=>
  have S:wc.cell? ⟨i,1,none⟩=some (.int .i64 (y:Int)):=b.out.1.cell 1;have U:wc.cell? ⟨i,2,none⟩=some (.int .i64 (m:Int)):=b.out.1.cell 2;have T:wc.cell? ⟨i,3,none⟩=some (.int .i64 (d:Int)):=b.out.1.cell 3;clear o;cases N with
  |true=>
   have O:Hid (sh=2):=hid (of_decide_eq_true L.out);go_wp2;go_meet;exact hid ⟨.inl O.out,b.out.1,b.out.2⟩
  |false=>
   have O:Hid (¬sh=2):=hid (of_decide_eq_false L.out);cases q:Cal.vld y m d with
   |true=>
    have x:=hid q;have P:=hid (V.out q);clear q;go_wp2_with fail;refine(P.out _).mono ?_;rintro e K ⟨rfl,l⟩;have s:Hid (Blk K i 96 #[.int .i64 sh,.int .i64 (y:Int),.int .i64 (m:Int),.int .i64 (d:Int),.int .i64 (h:Int),.int .i64 (mi:Int),.int .i64 (c:Int),.int .i64 (zh:Int),.int .i64 (zm:Int),.int .i64 nanos,.int .u8 z]/\Below i w K):=hid ⟨b.out.1.below l b.out.1.lt,b.out.2.trans (l.mono (Nat.le_of_lt b.out.1.lt))⟩;clear l S U T;go_wp2;go_meet;exact hid ⟨.inr x.out,s.out.1,s.out.2⟩
   |false=>
    have n:Hid (r=false):=hid (by rw[<-C.out];unfold prngB;rw[q,decide_eq_false O.out];rfl);have P:=hid (X.out q);clear q;go_wp2_with fail;refine(P.out _).mono ?_;rintro e K ⟨rfl,l⟩;have s:Hid (Blk K i 96 #[.int .i64 sh,.int .i64 (y:Int),.int .i64 (m:Int),.int .i64 (d:Int),.int .i64 (h:Int),.int .i64 (mi:Int),.int .i64 (c:Int),.int .i64 (zh:Int),.int .i64 (zm:Int),.int .i64 nanos,.int .u8 z]/\Below i w K):=hid ⟨b.out.1.below l b.out.1.lt,b.out.2.trans (l.mono (Nat.le_of_lt b.out.1.lt))⟩;clear l S U T;go_wp2;go_ret;rw[n.out,j.out];exact⟨rfl,s.out.2⟩
 case rest=>
 have t:=hcut;clear hcut b o;refine(‹∀(a:Act) (w_1:World),Code.wp prog _ _ a w_1->_›) _ _ ?_;have i0:∀w,(Instr.index 136 (.agg #[.int .i64 23,.int .i64 59,.int .i64 59,.int .i64 23,.int .i64 59]) (.int .i64 0)).run prog w=.ok (.int .i64 23) w:=fun _=>by kernel_rfl
 have i1:∀w,(Instr.index 136 (.agg #[.int .i64 23,.int .i64 59,.int .i64 59,.int .i64 23,.int .i64 59]) (.int .i64 1)).run prog w=.ok (.int .i64 59) w:=fun _=>by kernel_rfl
 have i2:∀w,(Instr.index 136 (.agg #[.int .i64 23,.int .i64 59,.int .i64 59,.int .i64 23,.int .i64 59]) (.int .i64 2)).run prog w=.ok (.int .i64 59) w:=fun _=>by kernel_rfl
 have i3:∀w,(Instr.index 136 (.agg #[.int .i64 23,.int .i64 59,.int .i64 59,.int .i64 23,.int .i64 59]) (.int .i64 3)).run prog w=.ok (.int .i64 23) w:=fun _=>by kernel_rfl
 have i4:∀w,(Instr.index 136 (.agg #[.int .i64 23,.int .i64 59,.int .i64 59,.int .i64 23,.int .i64 59]) (.int .i64 4)).run prog w=.ok (.int .i64 59) w:=fun _=>by kernel_rfl
 go_upto_block 0 with fail;obtain⟨B,A⟩:=ex (wc.alloc (.cells #[.int .i64 23,.int .i64 59,.int .i64 59,.int .i64 23,.int .i64 59] 136))
 have f:Hid (Blk B i 96 #[.int .i64 sh,.int .i64 (y:Int),.int .i64 (m:Int),.int .i64 (d:Int),.int .i64 (h:Int),.int .i64 (mi:Int),.int .i64 (c:Int),.int .i64 (zh:Int),.int .i64 (zm:Int),.int .i64 nanos,.int .u8 z]/\Below i w B):=hid (by rw[<-A];exact⟨t.out.2.1.alloc _,t.out.2.2.alloc (Nat.le_of_lt t.out.2.1.lt) _⟩);(try rw[A]);clear A;have q4:B.cell? ⟨i,4,none⟩=some (.int .i64 (h:Int)):=f.out.1.cell 4;have q5:B.cell? ⟨i,5,none⟩=some (.int .i64 (mi:Int)):=f.out.1.cell 5;have q6:B.cell? ⟨i,6,none⟩=some (.int .i64 (c:Int)):=f.out.1.cell 6;have q7:B.cell? ⟨i,7,none⟩=some (.int .i64 (zh:Int)):=f.out.1.cell 7;have q8:B.cell? ⟨i,8,none⟩=some (.int .i64 (zm:Int)):=f.out.1.cell 8;go_wp2_with fail;go_loop [28] (fun s28=>∃k:Int,0<=k/\k<=5/\s28=.int .i64 k/\Hid ((0<k->h<=23)/\(1<k->mi<=59)/\(2<k->c<=59)/\(3<k->zh<=23)/\(4<k->zm<=59))) (fun s28=>5-(intOf s28).toNat)
 case atStart=>exact⟨0,by omega,by omega,rfl,hid ⟨by omega,by omega,by omega,by omega,by omega⟩⟩
 case round=>
  obtain⟨k,hk0,hk5,rfl,x⟩:=hrel;have Q:k=0\/k=1\/k=2\/k=3\/k=4\/k=5:=by omega
  rcases Q with rfl|rfl|rfl|rfl|rfl|rfl
  .by_cases hx:h<=23
   .have g:¬(23:Int)<(h:Int):=by omega
    have u:=hid hx;clear hx;go_wp2;go_round
    case rel=>exact⟨1,by omega,by omega,rfl,hid (by obtain⟨H,F,I,E,G⟩:=x.out;have:=u.out;exact⟨by omega,by omega,by omega,by omega,by omega⟩)⟩
    case measure=>simp[intOf]
   .have g:(23:Int)<(h:Int):=by omega
    have n:Hid (r=false):=hid (by rw[<-C.out];unfold prngB;rw[decide_eq_false (p:=h<=23) hx];simp);clear hx;go_wp2;go_ret;rw[n.out,j.out];exact⟨rfl,f.out.2⟩
  .by_cases hx:mi<=59
   .have g:¬(59:Int)<(mi:Int):=by omega
    have u:=hid hx;clear hx;go_wp2;go_round
    case rel=>exact⟨2,by omega,by omega,rfl,hid (by obtain⟨H,F,I,E,G⟩:=x.out;have:=u.out;exact⟨by omega,by omega,by omega,by omega,by omega⟩)⟩
    case measure=>simp[intOf]
   .have g:(59:Int)<(mi:Int):=by omega
    have n:Hid (r=false):=hid (by rw[<-C.out];unfold prngB;rw[decide_eq_false (p:=mi<=59) hx];simp);clear hx;go_wp2;go_ret;rw[n.out,j.out];exact⟨rfl,f.out.2⟩
  .by_cases hx:c<=59
   .have g:¬(59:Int)<(c:Int):=by omega
    have u:=hid hx;clear hx;go_wp2;go_round
    case rel=>exact⟨3,by omega,by omega,rfl,hid (by obtain⟨H,F,I,E,G⟩:=x.out;have:=u.out;exact⟨by omega,by omega,by omega,by omega,by omega⟩)⟩
    case measure=>simp[intOf]
   .have g:(59:Int)<(c:Int):=by omega
    have n:Hid (r=false):=hid (by rw[<-C.out];unfold prngB;rw[decide_eq_false (p:=c<=59) hx];simp);clear hx;go_wp2;go_ret;rw[n.out,j.out];exact⟨rfl,f.out.2⟩
  .by_cases hx:zh<=23
   .have g:¬(23:Int)<(zh:Int):=by omega
    have u:=hid hx;clear hx;go_wp2;go_round
    case rel=>exact⟨4,by omega,by omega,rfl,hid (by obtain⟨H,F,I,E,G⟩:=x.out;have:=u.out;exact⟨by omega,by omega,by omega,by omega,by omega⟩)⟩
    case measure=>simp[intOf]
   .have g:(23:Int)<(zh:Int):=by omega
    have n:Hid (r=false):=hid (by rw[<-C.out];unfold prngB;rw[decide_eq_false (p:=zh<=23) hx];simp);clear hx;go_wp2;go_ret;rw[n.out,j.out];exact⟨rfl,f.out.2⟩
  .by_cases hx:zm<=59
   .have g:¬(59:Int)<(zm:Int):=by omega
    have u:=hid hx;clear hx;go_wp2;go_round
    case rel=>exact⟨5,by omega,by omega,rfl,hid (by obtain⟨H,F,I,E,G⟩:=x.out;have:=u.out;exact⟨by omega,by omega,by omega,by omega,by omega⟩)⟩
    case measure=>simp[intOf]
   .have g:(59:Int)<(zm:Int):=by omega
    have n:Hid (r=false):=hid (by rw[<-C.out];unfold prngB;rw[decide_eq_false (p:=zm<=59) hx];simp);clear hx;go_wp2;go_ret;rw[n.out,j.out];exact⟨rfl,f.out.2⟩
  .have n:Hid (r=true):=hid (by
    obtain⟨H,F,I,E,G⟩:=x.out;rw[<-C.out];unfold prngB;rw[decide_eq_true (H (by omega)),decide_eq_true (F (by omega)),decide_eq_true (I (by omega)),decide_eq_true (E (by omega)),decide_eq_true (G (by omega))];rcases t.out.1 with h|h<;>simp[h])
   go_wp2;go_ret;rw[n.out,j.out];exact⟨rfl,f.out.2⟩
def OfPost (Z nanos:Int) (w:World) (e:Ending) (w':World):Prop:=∃y m d:Int,Cal.vld y m d=true/\Cal.num y m d=Z /86400-719528/\e=.returned (.agg #[.bool true,.bool true,.bool true,.int .i64 y,.int .i64 m,.int .i64 d,.int .i64 (Z%86400 /3600),.int .i64 (Z%86400 /60%60),.int .i64 (Z%86400%60),.int .i64 nanos,.int .i64 0,.bool false])/\Below w.heap.size w w'
theorem zwe (S Z nanos:Int) (hz:S- -62167219200=Z) (h0:0<=Z) (h1:Z<=315569519999) (w:World):
 Calls prog 161 #[.int .i64 S,.int .i64 nanos] w (OfPost Z nanos w):=by
 have hS0:-62167219200<=S:=by omega
 have hS1:S<=253402300799:=by omega
 obtain⟨N,hN⟩:=ex (Z /86400)
 obtain⟨R,hR⟩:=ex (Z%86400)
 have al:0<=N:=by omega
 have hN1:N<=3652424:=by omega
 have hR0:0<=R:=by omega
 have hR1:R<=86399:=by omega
 have P:Hid (Z /86400=N/\Z%86400=R):=hid ⟨hN,hR⟩;have HD:Hid (∀y:Int,0<=y->y<=10000->∀W,Calls prog 187 #[.int .i64 y,.int .i64 1,.int .i64 1] W fun e i=>e=.returned (.int .i64 (Cal.fst y-719528))/\W=i):=hid (fun y a b W=>by
  have:=zim y 1 1 a (by omega) (by omega) (by omega) (by omega) (by omega) W;rwa[show Cal.num y 1 1=Cal.fst y-719528 from by unfold Cal.num;rw[Cal.zyv];omega]at this)
 go_enter func161,ntmps161;go_upto_region 5 with fail;obtain⟨c,u⟩:=ex w.heap.size
 obtain⟨E,B⟩:∃E,E=(w.alloc (.cells #[.bool false,.bool false,.bool false,.int .i64 0,.int .i64 0,.int .i64 0,.int .i64 0,.int .i64 0,.int .i64 0,.int .i64 0,.int .i64 0,.bool false] 147)).alloc (.cells #[.bool true,.bool true,.bool true,.int .i64 0,.int .i64 0,.int .i64 0,.int .i64 (R /3600),.int .i64 (R /60%60),.int .i64 (R%60),.int .i64 nanos,.int .i64 0,.bool false] 147):=⟨_,rfl⟩
 have k:Hid (Blk E (c+1) 147 (T12 true true true 0 0 0 (R /3600) (R /60%60) (R%60) nanos 0 false)/\Blk E c 147 (T12 false false false 0 0 0 0 0 0 0 0 false)/\Below c w E):=hid (by
  rw[B,<-u];refine⟨?_,(Blk.new _ _ _).alloc _,zbu _ _⟩;have:=Blk.new (w.alloc (.cells #[.bool false,.bool false,.bool false,.int .i64 0,.int .i64 0,.int .i64 0,.int .i64 0,.int .i64 0,.int .i64 0,.int .i64 0,.int .i64 0,.bool false] 147)) 147 (T12 true true true 0 0 0 (R /3600) (R /60%60) (R%60) nanos 0 false);rwa[World.size_alloc]at this)
 have af:=hid u;(try rw[<-B]);(try rw[u]);rw[hN,hR];clear B u hN hR hz h0 h1;have F:E.cell? ⟨c+1,3,none⟩=some (.int .i64 0):=k.out.1.cell 3;have I:∀j,E.frozen? ⟨c+1,j,none⟩=false:=k.out.1.frozen;have ac:=hid (Cal.zxx N al);go_wp2_with fail;clear F I;go_loopw [35] (fun _ wr=>∃y:Int,0<=y/\y<=9999/\Hid (Cal.fst y<=N/\Blk wr (c+1) 147 (T12 true true true y 0 0 (R /3600) (R /60%60) (R%60) nanos 0 false)/\Blk wr c 147 (T12 false false false 0 0 0 0 0 0 0 0 false)/\Below c w wr)) (fun _ wr=>match wr.cell? ⟨c+1,3,none⟩with|some (.int _ n)=>10000-n.toNat|_=>0)
 case atStart=>exact⟨N /366,by omega,by omega,hid ⟨ac.out,k.out.1.set_ 3 _,k.out.2.1.far (Nat.succ_ne_self c).symm _,k.out.2.2.setCell (p:=⟨c+1,3,none⟩) (by simp) _⟩⟩
 case round=>
  obtain⟨s,ah⟩:∃s,s=wr:=⟨_,rfl⟩
  subst ah;obtain⟨y,H,Y,o⟩:=hrel;have L:=Cal.zk0 y H;have hl:=Cal.zxv y;have bd:=Cal.zxw y (by omega) (by omega);have am:=Cal.zxw (y+1) (by omega) (by omega);have G:Hid (Cal.fst (y+1)=Cal.fst y+365+Cal.lp y/\0<=Cal.lp y/\Cal.lp y<=1):=hid ⟨L,hl⟩;obtain⟨J,t⟩:=ex (Cal.fst (y+1))
  obtain⟨x,r⟩:=ex (Cal.fst y)
  have f:Hid (Cal.fst (y+1)=J/\Cal.fst y=x):=hid ⟨t,r⟩;have O:Hid (∀W,Calls prog 187 #[.int .i64 (y+1),.int .i64 1,.int .i64 1] W fun e i=>e=.returned (.int .i64 (J-719528))/\W=i):=hid (fun W=>by rw[<-t];exact HD.out (y+1) (by omega) (by omega) W);have aa:Hid (∀W,Calls prog 187 #[.int .i64 y,.int .i64 1,.int .i64 1] W fun e i=>e=.returned (.int .i64 (x-719528))/\W=i):=hid (fun W=>by rw[<-r];exact HD.out y (by omega) (by omega) W);rw[t]at am;rw[r]at bd;clear L hl t r;have F:s.cell? ⟨c+1,3,none⟩=some (.int .i64 y):=o.out.2.1.cell 3;have T:s.cell? ⟨c+1,4,none⟩=some (.int .i64 0):=o.out.2.1.cell 4;have I:∀j,s.frozen? ⟨c+1,j,none⟩=false:=o.out.2.1.frozen;have hNf:x<=N:=by have:=o.out.1;rw[f.out.2]at this;exact this
  by_cases hc:J<=N
  .have ae:J-719528<=N-719528:=by omega
   have hy4:y<9999:=by
    have:=Cal.zpl;by_cases e:y=9999
    .subst e;have h2:=f.out.1;rw[show(9999:Int)+1=10000 from rfl]at h2;omega
    .omega
   have l:Hid (Cal.fst (y+1)<=N/\Blk (s.setCell ⟨c+1,3,none⟩ (.int .i64 (y+1))) (c+1) 147 (T12 true true true (y+1) 0 0 (R /3600) (R /60%60) (R%60) nanos 0 false)/\Blk (s.setCell ⟨c+1,3,none⟩ (.int .i64 (y+1))) c 147 (T12 false false false 0 0 0 0 0 0 0 0 false)/\Below c w (s.setCell ⟨c+1,3,none⟩ (.int .i64 (y+1)))):=hid ⟨by rw[f.out.1];exact hc,o.out.2.1.set_ 3 _,o.out.2.2.1.far (Nat.succ_ne_self c).symm _,o.out.2.2.2.setCell (p:=⟨c+1,3,none⟩) (by simp) _⟩;go_wp2_with fail;refine(O.out _).mono ?_;rintro e i ⟨rfl,rfl⟩;go_wp2_with fail;have V:(s.setCell ⟨c+1,3,none⟩ (.int .i64 (y+1))).cell? ⟨c+1,3,none⟩=some (.int .i64 (y+1)):=l.out.2.1.cell 3;go_roundw
   case rel=>exact⟨y+1,by omega,by omega,l⟩
   case measure=>rw[V,F];simp only;omega
  .have ae:¬J-719528<=N-719528:=by omega
   have hN2:N<x+366:=by have h1:=G.out;rw[f.out.1,f.out.2]at h1;omega
   have ad:Hid (N<x+365+Cal.lp y):=hid (by have h1:=G.out;rw[f.out.1,f.out.2]at h1;omega);go_wp2_with fail;refine(O.out _).mono ?_;rintro e i ⟨rfl,rfl⟩;go_wp2_with fail;refine(aa.out _).mono ?_;rintro e i ⟨rfl,rfl⟩;go_wp2_with fail;clear F T I;go_loopw [6] (fun s6 wr=>∃m v:Int,1<=m/\m<=12/\0<=v/\v<=366/\s6=.int .i64 v/\Hid (v=N-x-Cal.cum y m/\Blk wr (c+1) 147 (T12 true true true y m 0 (R /3600) (R /60%60) (R%60) nanos 0 false)/\Blk wr c 147 (T12 false false false 0 0 0 0 0 0 0 0 false)/\Below c w wr)) (fun s6 wr=>match wr.cell? ⟨c+1,4,none⟩with|some (.int _ n)=>13-n.toNat|_=>0)
   case atStart=>exact⟨1,N-x,by omega,by omega,by omega,by omega,by exact congrArg (Value.int .i64) (by omega),hid ⟨by rw[Cal.zyv];omega,o.out.2.1.set_ 4 _,o.out.2.2.1.far (Nat.succ_ne_self c).symm _,o.out.2.2.2.setCell (p:=⟨c+1,4,none⟩) (by simp) _⟩⟩
   case round=>
    obtain⟨g,ab⟩:∃g,g=wr:=⟨_,rfl⟩
    subst ab;obtain⟨m,v,z,D,hv0,hv1,rfl,d⟩:=hrel;have A:=Cal.zg3 y m z D;have aj:=Cal.zxy y m;obtain⟨q,U⟩:=ex (Cal.dim y m)
    have C:Hid (∀W,Calls prog 166 #[.int .i64 y,.int .i64 m] W fun e i=>e=.returned (.int .i64 q)/\W=i):=hid (fun W=>by rw[<-U];exact zd2 y m z D W);rw[U]at A aj;have K:=hid A;have HQ:=hid U;clear A U;have F:g.cell? ⟨c+1,3,none⟩=some (.int .i64 y):=d.out.2.1.cell 3;have T:g.cell? ⟨c+1,4,none⟩=some (.int .i64 m):=d.out.2.1.cell 4;have I:∀j,g.frozen? ⟨c+1,j,none⟩=false:=d.out.2.1.frozen;by_cases hd:q<=v
    .have hm4:m<12:=by
      by_cases e:m=12
      .subst e;have h1:=K.out;have h2:=ad.out;have h3:=Cal.zx1 y;have h4:=d.out.1;rw[show(12:Int)+1=13 from rfl]at h1;omega
      .omega
     have l:Hid (v-q=N-x-Cal.cum y (m+1)/\Blk (g.setCell ⟨c+1,4,none⟩ (.int .i64 (m+1))) (c+1) 147 (T12 true true true y (m+1) 0 (R /3600) (R /60%60) (R%60) nanos 0 false)/\Blk (g.setCell ⟨c+1,4,none⟩ (.int .i64 (m+1))) c 147 (T12 false false false 0 0 0 0 0 0 0 0 false)/\Below c w (g.setCell ⟨c+1,4,none⟩ (.int .i64 (m+1)))):=hid ⟨by rw[K.out];have:=d.out.1;omega,d.out.2.1.set_ 4 _,d.out.2.2.1.far (Nat.succ_ne_self c).symm _,d.out.2.2.2.setCell (p:=⟨c+1,4,none⟩) (by simp) _⟩;go_wp2_with fail;refine(C.out _).mono ?_;rintro e i ⟨rfl,rfl⟩;go_wp2_with fail;refine(C.out _).mono ?_;rintro e i ⟨rfl,rfl⟩;go_wp2_with fail;have X:(g.setCell ⟨c+1,4,none⟩ (.int .i64 (m+1))).cell? ⟨c+1,4,none⟩=some (.int .i64 (m+1)):=l.out.2.1.cell 4;go_roundw
     case rel=>exact⟨m+1,v-q,by omega,by omega,by omega,by omega,rfl,l⟩
     case measure=>rw[X,T];simp only;omega
    .have h:Hid (Blk (g.setCell ⟨c+1,5,none⟩ (.int .i64 (v+1))) (c+1) 147 (T12 true true true y m (v+1) (R /3600) (R /60%60) (R%60) nanos 0 false)/\Blk (g.setCell ⟨c+1,5,none⟩ (.int .i64 (v+1))) c 147 (T12 false false false 0 0 0 0 0 0 0 0 false)/\Below c w (g.setCell ⟨c+1,5,none⟩ (.int .i64 (v+1)))):=hid ⟨d.out.2.1.set_ 5 _,d.out.2.2.1.far (Nat.succ_ne_self c).symm _,d.out.2.2.2.setCell (p:=⟨c+1,5,none⟩) (by simp) _⟩;have q5:g.cell? ⟨c+1,5,none⟩=some (.int .i64 0):=d.out.2.1.cell 5;go_wp2_with fail;refine(C.out _).mono ?_;rintro e i ⟨rfl,rfl⟩;go_upto_region 14 with fail;obtain⟨Q,M⟩:=ex (g.setCell ⟨c+1,5,none⟩ (.int .i64 (v+1)))
     rw[M]at h ⊢;clear M F T q5 I;obtain⟨a0,a1,a2,a3,a4,a5,a6,a7,a8,a9,a10,a11⟩:=zah h.out.1;have xb:∀j,Q.cell? ⟨c,j,none⟩=(#[.bool false,.bool false,.bool false,.int .i64 0,.int .i64 0,.int .i64 0,.int .i64 0,.int .i64 0,.int .i64 0,.int .i64 0,.int .i64 0,.bool false]:Array Value)[j]? :=fun j=>h.out.2.1.cell j
     have xf:∀j,Q.frozen? ⟨c,j,none⟩=false:=h.out.2.1.frozen;go_wp2_with fail;have ag:Blk ((((((((((((Q.setCell ⟨c,0,none⟩ (.bool true)).setCell ⟨c,1,none⟩ (.bool true)).setCell ⟨c,2,none⟩ (.bool true)).setCell ⟨c,3,none⟩ (.int .i64 y)).setCell ⟨c,4,none⟩ (.int .i64 m)).setCell ⟨c,5,none⟩ (.int .i64 (v+1))).setCell ⟨c,6,none⟩ (.int .i64 (R /3600))).setCell ⟨c,7,none⟩ (.int .i64 (R /60%60))).setCell ⟨c,8,none⟩ (.int .i64 (R%60))).setCell ⟨c,9,none⟩ (.int .i64 nanos)).setCell ⟨c,10,none⟩ (.int .i64 0)).setCell ⟨c,11,none⟩ (.bool false)) c 147 (T12 true true true y m (v+1) (R /3600) (R /60%60) (R%60) nanos 0 false):=zbc h.out.2.1;have ak:Below c w ((((((((((((Q.setCell ⟨c,0,none⟩ (.bool true)).setCell ⟨c,1,none⟩ (.bool true)).setCell ⟨c,2,none⟩ (.bool true)).setCell ⟨c,3,none⟩ (.int .i64 y)).setCell ⟨c,4,none⟩ (.int .i64 m)).setCell ⟨c,5,none⟩ (.int .i64 (v+1))).setCell ⟨c,6,none⟩ (.int .i64 (R /3600))).setCell ⟨c,7,none⟩ (.int .i64 (R /60%60))).setCell ⟨c,8,none⟩ (.int .i64 (R%60))).setCell ⟨c,9,none⟩ (.int .i64 nanos)).setCell ⟨c,10,none⟩ (.int .i64 0)).setCell ⟨c,11,none⟩ (.bool false)):=zcc h.out.2.2 (Nat.le_refl c);obtain⟨e0,e1,e2,e3,e4,e5,e6,e7,e8,e9,an,ai⟩:=zah ag;refine bodyPost_ret (v:=.agg #[.bool true,.bool true,.bool true,.int .i64 y,.int .i64 m,.int .i64 (v+1),.int .i64 (R /3600),.int .i64 (R /60%60),.int .i64 (R%60),.int .i64 nanos,.int .i64 0,.bool false]) (by simp[results,results161,go_sem,e0,e1,e2,e3,e4,e5,e6,e7,e8,e9,an,ai]) rfl ?_;unfold OfPost;rw[P.out.1,P.out.2,af.out];exact⟨y,m,v+1,Cal.zy9 ⟨H,Y,z,D,by omega,by rw[HQ.out];omega⟩,by unfold Cal.num;rw[f.out.2];have:=d.out.1;omega,rfl,ak⟩
end Go.Proofs.YtpgmfihonmoliaaGreatDoor

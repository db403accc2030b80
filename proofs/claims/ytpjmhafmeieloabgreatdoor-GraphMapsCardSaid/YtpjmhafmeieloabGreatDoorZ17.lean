import Derived.Test.YtpjmhafmeieloabGreatDoorGrInsP3C
import Derived.Test.YtpjmhafmeieloabGreatDoorZ09
namespace Go.Proofs.YtpjmhafmeieloabGreatDoor
namespace Gr
def ltS:Str->Str->Bool
 |_,[]=>false
 | [],_::_=>true
 |a::l,b::m=>decide (a.toNat<b.toNat) || (a==b && ltS l m)
def insR (t:Str):List Str->List Str
 | []=>[t]
 |y::r=>if ltS t y=true then y::insR t r else t::y::r
def insL (l:List Str) (t:Str):List Str:=(insR t l.reverse).reverse
def sortS (l:List Str):List Str:=l.foldl insL []
def printF (ns:List Nd):Nat->Nat->Str
 | 0,_=>[]
 |f+1,i=>match ns[i]? with
  |none=>[]
  |some x=>
   let es:=(List.range x.items.length).map (fun k=>(if x.kind=10 then printF ns f (x.keys.getD k 0)else[])++printF ns f (x.items.getD k 0))
   UInt8.ofNat (97+x.kind.toNat)::(Lib.decDigits x.text.length++58::(x.text++(Lib.decDigits x.items.length++40::((if x.kind=10/\x.ord=false then sortS es else es).flatten++41::(if x.ord=true then[33]else[])))))
theorem zis (t:Str) (l:List Str):(insR t l).Perm (t::l):=by
 induction l with
 |nil=>exact .refl _
 |cons y r ih=>
  unfold insR;split
  .grind
  .exact .refl _
theorem zqp (l:List Str) (t:Str):(insL l t).Perm (t::l):=by
 unfold insL;exact(List.reverse_perm _).trans ((zis t _).trans ((List.reverse_perm l).cons t))
theorem zit (l:List Str):∀a,(l.foldl insL a).Perm (a++l):=by
 induction l with
 |nil=>intro a;simp
 |cons t l ih=>
  intro a;rw[List.foldl_cons];exact(ih _).trans (((zqp a t).append_right l).trans (by simpa using(List.perm_middle (a:=t) (l₁:=a) (l₂:=l)).symm))
theorem za4 (l:List Str):(sortS l).Perm l:=by unfold sortS;simpa using zit l []
theorem zm3 (a:Str):ltS a a=false:=by
 induction a with
 |nil=>rfl
 |cons a l ih=>simp[ltS,ih]
theorem ziu {a b c:Str} (h1:ltS a b=true) (h2:ltS b c=true):ltS a c=true:=by
 induction a generalizing b c with
 |nil=>cases b<;>cases c<;>simp_all [ltS]
 |cons x a ih=>
  cases b with
  |nil=>simp[ltS]at h1
  |cons y b=>
   cases c with
   |nil=>simp[ltS]at h2
   |cons z c=>
    simp only[ltS,Bool.or_eq_true,decide_eq_true_eq,Bool.and_eq_true,beq_iff_eq]at h1 h2 ⊢;rcases h1 with h1|⟨rfl,h1⟩
    .grind
    .grind
theorem ziv {a b:Str} (h1:ltS a b=false) (h2:ltS b a=false):a=b:=by
 induction a generalizing b with
 |nil=>cases b with
  |nil=>rfl
  |cons=>simp[ltS]at h1
 |cons x a ih=>
  cases b with
  |nil=>simp[ltS]at h2
  |cons y b=>
   simp only[ltS,Bool.or_eq_false_iff,decide_eq_false_iff_not,Bool.and_eq_false_iff]at h1 h2;have:x=y:=by apply UInt8.toNat_inj.1;omega
   subst this;have d:ltS a b=false:=by
    rcases h1.2 with h|h
    .simp at h
    .exact h
   have c:ltS b a=false:=by
    rcases h2.2 with h|h
    .simp at h
    .exact h
   rw[ih d c]
def Desc (l:List Str):Prop:=l.Pairwise (fun a b=>ltS a b=false)
theorem zqq (t:Str) (l:List Str) (h:Desc l):Desc (insR t l):=by
 induction l with
 |nil=>simp[insR,Desc]
 |cons y r ih=>
  unfold Desc at h ih ⊢;rw[List.pairwise_cons]at h;unfold insR;split
  .rename_i hlt;rw[List.pairwise_cons];refine⟨fun z a=>?_,ih h.2⟩;have:=(zis t r).mem_iff.1 a;rcases List.mem_cons.1 this with rfl|h3
   .cases hc:ltS y z with
    |false=>rfl
    |true=>have:=ziu hc hlt;rw[zm3]at this;cases this
   .exact h.1 z h3
  .rename_i hlt;have b:ltS t y=false:=by simpa using hlt
   rw[List.pairwise_cons,List.pairwise_cons];refine⟨fun z a=>?_,h⟩;rcases List.mem_cons.1 a with rfl|h3
   .exact b
   .cases hc:ltS t z with
    |false=>rfl
    |true=>
     have c:=h.1 z h3;cases hd:ltS z y with
     |true=>have:=ziu hc hd;rw[b]at this;cases this
     |false=>have:=ziv c hd;subst this;rw[b]at hc;cases hc
theorem zwx {l m:List Str} (hl:Desc l) (hm:Desc m) (hp:l.Perm m):l=m:=
 List.Perm.eq_of_pairwise (le:=fun a b=>ltS a b=false) (fun _ _ _ _ c d=>ziv c d) hl hm hp
theorem ziw (l:List Str):∀a,Desc a.reverse->Desc (l.foldl insL a).reverse:=by
 induction l with
 |nil=>intro a h;exact h
 |cons t l ih=>
  intro a h;rw[List.foldl_cons];apply ih;unfold insL;rw[List.reverse_reverse];exact zqq t _ h
theorem ztp {l m:List Str} (h:l.Perm m):sortS l=sortS m:=by
 have c:=ziw l [] (by simp[Desc]);have b:=ziw m [] (by simp[Desc]);have a:((sortS l).reverse).Perm ((sortS m).reverse):=(List.reverse_perm _).trans (((za4 l).trans (h.trans (za4 m).symm)).trans (List.reverse_perm _).symm);have:=congrArg List.reverse (zwx c b a);simpa[sortS]using this
theorem zqr {l m:List Str} (h:sortS l=sortS m):l.Perm m:=(za4 l).symm.trans (h▸za4 m)
def ents (ns:List Nd) (f:Nat) (x:Nd):List Str:=(List.range x.items.length).map (fun k=>(if x.kind=10 then printF ns f (x.keys.getD k 0)else[])++printF ns f (x.items.getD k 0))
def entS (ns:List Nd) (f:Nat) (x:Nd):List Str:=if x.kind=10/\x.ord=false then sortS (ents ns f x)else ents ns f x
theorem zam {ns:List Nd} {f i:Nat} {x:Nd} (h:ns[i]? =some x):printF ns (f+1) i=
 UInt8.ofNat (97+x.kind.toNat)::(Lib.decDigits x.text.length++58::(x.text++(Lib.decDigits x.items.length++40::((entS ns f x).flatten++41::(if x.ord=true then[33]else[]))))):=by
 unfold printF entS ents;rw[h]
theorem zix {a b:Nat} {r r':Str} {c:UInt8} (hc:dig c=false) (h:Lib.decDigits a++c::r=Lib.decDigits b++c::r'):a=b/\r=r':=by
 have e:=zf1 (p:=dig) (Lib.decDigits a) c r (fun x d=>List.all_eq_true.1 (zak a) x d) hc;have f:=zf1 (p:=dig) (Lib.decDigits b) c r' (fun x d=>List.all_eq_true.1 (zak b) x d) hc;rw[h]at e;have i:Lib.decDigits a=Lib.decDigits b:=e.1.symm.trans f.1;have g:c::r=c::r':=e.2.symm.trans f.2;refine⟨?_,by injection g⟩;have:=congrArg val i;rwa[zal,zal]at this
def NodesOk (ns:List Nd):Prop:=∀x∈ns,0<=x.kind/\x.kind<=11/\(x.kind=10->x.keys.length=x.items.length)
def Tall' (ns:List Nd):Nat->Nat->Prop
 | 0,_=>False
 |f+1,i=>∀x∈succ ns i,Tall' ns f x
structure TOk (ns:List Nd) (f i:Nat):Prop where
 lt:i<ns.length
 tall:Tall' ns f i
def no33 (r:Str):Prop:=r.head?≠some 33
def ElemOk (ns:List Nd) (f:Nat) (m:Bool) (e:Str):Prop:=if m=true then∃a b,TOk ns f a/\TOk ns f b/\e=printF ns f a++printF ns f b else∃b,TOk ns f b/\e=printF ns f b
section
variable {ns:List Nd}
theorem za0 (hok:NodesOk ns) {f i:Nat} (h:TOk ns f i) (r:Str):no33 (printF ns f i++r)/\(printF ns f i++r)≠[]:=by
 obtain⟨a,b⟩:=h;cases f with
 |zero=>exact absurd b id
 |succ f=>
  rw[zam (List.getElem?_eq_getElem a)];refine⟨?_,by simp⟩;unfold no33;have hk:=hok _ (List.getElem_mem a);intro h;simp only[List.cons_append,List.head?_cons,Option.some.injEq]at h;have:=congrArg UInt8.toNat h;rw[UInt8.toNat_ofNat',Nat.mod_eq_of_lt (by omega)]at this;have h33:(33:UInt8).toNat=33:=rfl;omega
theorem ziy (hok:NodesOk ns) {f:Nat} {m:Bool} {e:Str} (h:ElemOk ns f m e) (r:Str):no33 (e++r):=by
 unfold ElemOk at h;split at h
 .obtain⟨a,b,d,_,rfl⟩:=h;rw[List.append_assoc];exact(za0 hok d _).1
 .obtain⟨b,c,rfl⟩:=h;exact(za0 hok c _).1
theorem ziz {f:Nat} {m:Bool} (hh:∀e,ElemOk ns f m e->∀r,no33 (e++r)) (L:List Str) (hL:∀e∈L,ElemOk ns f m e) (q:Str):no33 (L.flatten++41::q):=by
 cases L with
 |nil=>simp[no33]
 |cons e L=>
  grind
theorem zqs (hok:NodesOk ns) (hr:Refs ns) {f i:Nat} (hi:i<ns.length) (ht:Tall' ns (f+1) i):∀e∈entS ns f ns[i],ElemOk ns f (decide (ns[i].kind=10)) e:=by
 have b:∀e∈entS ns f ns[i],e∈ents ns f ns[i]:=by
  intro e a;unfold entS at a;split at a
  .exact(za4 _).mem_iff.1 a
  .exact a
 intro e a;have c:=b e a;unfold ents at c;obtain⟨k,g,rfl⟩:=List.mem_map.1 c;have hkl:=List.mem_range.1 g;have d:=hok _ (List.getElem_mem hi);have hs:succ ns i=ns[i].keys++ns[i].items:=by unfold succ;rw[List.getElem?_eq_getElem hi]
 have hit:ns[i].items.getD k 0∈succ ns i:=by
  grind
 have ok2:∀x∈succ ns i,TOk ns f x:=fun x d=>⟨hr.succ i x d,ht x d⟩
 unfold ElemOk;by_cases h10:ns[i].kind=10
 .grind
 .grind
def SplitAt (ns:List Nd) (f:Nat):Prop:=∀(i g j:Nat) (r r':Str),TOk ns f i->TOk ns g j->no33 r->no33 r'->printF ns f i++r=printF ns g j++r'->printF ns f i=printF ns g j/\r=r'
theorem zm4 (hok:NodesOk ns) {f g:Nat} {m:Bool} (ih:SplitAt ns f) {e e' r r':Str} (h:ElemOk ns f m e) (h':ElemOk ns g m e') (hr1:no33 r) (hr2:no33 r') (he:e++r=e'++r'):e=e'/\r=r':=by
 unfold ElemOk at h h';split at h
 .rename_i hm;rw[if_pos hm]at h';obtain⟨a,b,n,d,rfl⟩:=h;obtain⟨k,j,i,c,rfl⟩:=h';rw[List.append_assoc,List.append_assoc]at he;obtain⟨q,p⟩:=ih a g k _ _ n i (za0 hok d _).1 (za0 hok c _).1 he;obtain⟨o,l⟩:=ih b g j _ _ d c hr1 hr2 p;exact⟨by rw[q,o],l⟩
 .rename_i hm;rw[if_neg hm]at h';obtain⟨b,d,rfl⟩:=h;obtain⟨j,c,rfl⟩:=h';exact ih b g j _ _ d c hr1 hr2 he
theorem zm5 (hok:NodesOk ns) {f g:Nat} {m:Bool} (ih:SplitAt ns f):∀(L M:List Str) (q q':Str),L.length=M.length->(∀e∈L,ElemOk ns f m e)->(∀e∈M,ElemOk ns g m e)->L.flatten++41::q=M.flatten++41::q'->L=M/\q=q':=by
 intro L
 induction L with
 |nil=>
  grind
 |cons e L ihL=>
  intro M q q' j h i a;cases M with
  |nil=>simp at j
  |cons e' M=>
   rw[List.flatten_cons,List.flatten_cons,List.append_assoc,List.append_assoc]at a;have c:=fun x d=>h x (.tail _ d)
   have b:=fun x d=>i x (.tail _ d)
   obtain⟨o,l⟩:=zm4 hok ih (h e (.head _)) (i e' (.head _)) (ziz (fun e a r=>ziy hok a r) L c q) (ziz (fun e a r=>ziy hok a r) M b q') a;obtain⟨n,k⟩:=ihL M q q' (by simpa using j) c b l;exact⟨by rw[o,n],k⟩
theorem zlc (f:Nat) (x:Nd):(entS ns f x).length=x.items.length:=by
 unfold entS;split
 .rw[(za4 _).length_eq];simp[ents]
 .simp[ents]
theorem zqt {a b:Bool} {r r':Str} (h1:no33 r) (h2:no33 r') (h:(if a=true then[33]else[])++r=(if b=true then[33]else[])++r'):a=b/\r=r':=by
 cases a<;>cases b<;>simp at h ⊢
 .exact h
 .rw[h]at h1;simp[no33]at h1
 .rw[<-h]at h2;simp[no33]at h2
 .exact h
theorem zfg (hok:NodesOk ns) (hr:Refs ns) {f g i j:Nat} (ih:SplitAt ns f) (hi:TOk ns (f+1) i) (hj:TOk ns (g+1) j) {r r':Str} (h1:no33 r) (h2:no33 r') (h:printF ns (f+1) i++r=printF ns (g+1) j++r'):
 (ns[i]'hi.lt).kind=(ns[j]'hj.lt).kind/\(ns[i]'hi.lt).text=(ns[j]'hj.lt).text/\(ns[i]'hi.lt).ord=(ns[j]'hj.lt).ord/\(ns[i]'hi.lt).items.length=(ns[j]'hj.lt).items.length/\entS ns f (ns[i]'hi.lt)=entS ns g (ns[j]'hj.lt)/\r=r':=by
 have q:=zqs hok hr hi.lt hi.tall;have m:=zqs hok hr hj.lt hj.tall;rw[zam (List.getElem?_eq_getElem hi.lt),zam (List.getElem?_eq_getElem hj.lt)]at h;have k1:=hok _ (List.getElem_mem hi.lt);have k2:=hok _ (List.getElem_mem hj.lt);have p:=zlc (ns:=ns) f (ns[i]'hi.lt);have o:=zlc (ns:=ns) g (ns[j]'hj.lt);generalize ns[i]'hi.lt=x at *;generalize ns[j]'hj.lt=y at *;simp only[List.cons_append,List.append_assoc]at h;injection h with h3 h4
 have s:=congrArg UInt8.toNat h3;rw[UInt8.toNat_ofNat',UInt8.toNat_ofNat',Nat.mod_eq_of_lt (by omega),Nat.mod_eq_of_lt (by omega)]at s;have a:x.kind=y.kind:=by omega
 obtain⟨n,v⟩:=zix (by decide) h4;obtain⟨t,u⟩:=List.append_inj v n;obtain⟨b,k⟩:=zix (by decide) u;rw[<-a]at m;obtain⟨d,c⟩:=zm5 hok ih _ _ _ _ (by rw[p,o,b]) q m k;obtain⟨e,l⟩:=zqt h1 h2 c;exact⟨a,t,e,b,d,l⟩
theorem zda (hok:NodesOk ns) (hr:Refs ns):∀f,SplitAt ns f:=by
 intro f
 induction f with
 |zero=>intro i g j r p k;exact absurd k.tall id
 |succ f ih=>
  intro i g j r p k l o m h;cases g with
  |zero=>exact absurd l.tall id
  |succ g=>
   obtain⟨a,b,c,d,e,n⟩:=zfg hok hr ih k l o m h;refine⟨?_,n⟩;rw[zam (List.getElem?_eq_getElem k.lt),zam (List.getElem?_eq_getElem l.lt),a,b,c,d,e]
theorem zhc (hok:NodesOk ns) (hr:Refs ns):∀(f i j:Nat),TOk ns f i->TOk ns f j->printF ns f i=printF ns f j->sameF ns f i j=true:=by
 intro f
 induction f with
 |zero=>intro i j n;exact absurd n.tall id
 |succ f ih=>
  intro i j n t h;obtain⟨a,b,c,d,e,_⟩:=zfg hok hr (zda hok hr f) n t (r:=[]) (r':=[]) (by simp[no33]) (by simp[no33]) (by rw[h]);have v:∀x∈succ ns i,TOk ns f x:=fun x z=>⟨hr.succ i x z,n.tall x z⟩
  have w:∀x∈succ ns j,TOk ns f x:=fun x z=>⟨hr.succ j x z,t.tall x z⟩
  have s1:succ ns i=(ns[i]'n.lt).keys++(ns[i]'n.lt).items:=by unfold succ;rw[List.getElem?_eq_getElem n.lt]
  have s2:succ ns j=(ns[j]'t.lt).keys++(ns[j]'t.lt).items:=by unfold succ;rw[List.getElem?_eq_getElem t.lt]
  rw[s1]at v;rw[s2]at w;have R:=hok _ (List.getElem_mem n.lt);have M:=hok _ (List.getElem_mem t.lt);unfold sameF;rw[List.getElem?_eq_getElem n.lt,List.getElem?_eq_getElem t.lt];generalize ns[i]'n.lt=x at *;generalize ns[j]'t.lt=y at *;simp only;rw[if_neg (by rintro(h|h|h|h)<;>contradiction)];have P:∀k,k<x.items.length->TOk ns f (x.items.getD k 0):=fun k m=>v _ (List.mem_append_right _ (by rw[List.getD_eq_getElem?_getD,List.getElem?_eq_getElem m];exact List.getElem_mem m))
  have Q:∀k,k<y.items.length->TOk ns f (y.items.getD k 0):=fun k m=>w _ (List.mem_append_right _ (by rw[List.getD_eq_getElem?_getD,List.getElem?_eq_getElem m];exact List.getElem_mem m))
  have G:x.kind=10->∀k,k<x.items.length->TOk ns f (x.keys.getD k 0):=fun o k m=>v _ (List.mem_append_left _ (by rw[List.getD_eq_getElem?_getD,List.getElem?_eq_getElem (by rw[R.2.2 o];exact m)];exact List.getElem_mem _))
  have H:y.kind=10->∀k,k<y.items.length->TOk ns f (y.keys.getD k 0):=fun o k m=>w _ (List.mem_append_left _ (by rw[List.getD_eq_getElem?_getD,List.getElem?_eq_getElem (by rw[M.2.2 o];exact m)];exact List.getElem_mem _))
  have J:∀{a b a' b':Nat},TOk ns f a->TOk ns f b->TOk ns f a'->TOk ns f b'->printF ns f a++printF ns f b=printF ns f a'++printF ns f b'->sameF ns f a a'=true/\sameF ns f b b'=true:=by
   intro a b a' b' N L C B u;obtain⟨A,E⟩:=zda hok hr f a f a' _ _ N C (by simpa using(za0 hok L []).1) (by simpa using(za0 hok B []).1) u;exact⟨ih a a' N C A,ih b b' L B E⟩
  by_cases hm:x.kind=10/\x.ord=false
  .rw[if_pos hm];unfold entS at e;rw[if_pos hm,if_pos ⟨a▸hm.1,c▸hm.2⟩]at e;have O:=zqr e;rw[List.all_eq_true];intro p K;obtain⟨k,m,D⟩:=List.mem_iff_getElem.1 K;have g:k<x.items.length:=by rw[List.length_zip]at m;omega
   have I:k<x.keys.length:=by rw[List.length_zip]at m;omega
   rw[List.getElem_zip]at D;subst D;have s:(printF ns f (x.keys.getD k 0)++printF ns f (x.items.getD k 0))∈ents ns f y:=by
    refine O.mem_iff.1 ?_;unfold ents;exact List.mem_map.2 ⟨k,List.mem_range.2 g,by rw[if_pos hm.1]⟩
   unfold ents at s;obtain⟨l,S,u⟩:=List.mem_map.1 s;have q:=List.mem_range.1 S;rw[if_pos (a▸hm.1)]at u;obtain⟨A,E⟩:=J (G hm.1 k g) (P k g) (H (a▸hm.1) l q) (Q l q) u.symm;have F:l<y.keys.length:=by rw[M.2.2 (a▸hm.1)];exact q
   rw[List.any_eq_true];refine⟨(y.keys[l],y.items[l]),List.mem_iff_getElem.2 ⟨l,by rw[List.length_zip];omega,by rw[List.getElem_zip]⟩,?_⟩;rw[List.getD_eq_getElem?_getD,List.getElem?_eq_getElem I,List.getD_eq_getElem?_getD,List.getElem?_eq_getElem F]at A;rw[List.getD_eq_getElem?_getD,List.getElem?_eq_getElem g,List.getD_eq_getElem?_getD,List.getElem?_eq_getElem q]at E;simp only[Option.getD_some]at A E;rw[A,E];rfl
  .rw[if_neg hm];unfold entS at e;rw[if_neg hm,if_neg (by rw[<-a,<-c];exact hm)]at e;unfold ents at e;rw[List.all_eq_true];intro k m;have g:=List.mem_range.1 m;have u:((List.range x.items.length).map (fun k=>(if x.kind=10 then printF ns f (x.keys.getD k 0)else[])++printF ns f (x.items.getD k 0)))[k]? =((List.range y.items.length).map (fun k=>(if y.kind=10 then printF ns f (y.keys.getD k 0)else[])++printF ns f (y.items.getD k 0)))[k]? :=by rw[e]
   rw[List.getElem?_map,List.getElem?_map,List.getElem?_range g,List.getElem?_range (d▸g)]at u;simp only[Option.map_some,Option.some.injEq]at u;by_cases o:x.kind=10
   .grind
   .grind
end
end Gr
open _root_.Go.Proofs.Tryz
open _root_.Go.Lib (hid)
set_option maxRecDepth 100000
set_option maxHeartbeats 16000000
open Go.RowKit Go.Sort
theorem tz64_core (x k idx:Nat) (w:World) (hx0:((x:Int)==0)=false)
 (key:IntKind.u64.wrap (bits BinOp.and IntKind.u64 (x:Int) (IntKind.u64.wrap (-(x:Int)))*285870213051353865) /288230376151711744=(idx:Int))
 (hi:idx<64) (hk:k<64) (hcell:w.cell? ⟨6,idx,none⟩=some (.int .u8 k)):
 Calls prog 140 #[.int .u64 x] w fun e w'=>e=.returned (.int .i64 k)/\w'=w:=by
 go_enter func140,ntmps140;go_wp2_with (simp only[key]);go_ret;exact⟨rfl,rfl⟩
theorem zsl (x:Nat) (hx0:x≠0) (hx:x<18446744073709551616) (w:World) (hT:UT w):
 Calls prog 140 #[.int .u64 x] w fun e w'=>e=.returned (.int .i64 (Lib.ctz 64 x))/\w'=w:=by
 obtain⟨c,f⟩:=Lib.lowest_bit 64 x hx0 hx;obtain⟨d,b⟩:=Lib.deBruijn64_at _ f;have a:=hT.bru _ d;rw[b]at a;exact tz64_core x _ _ w (by simp;omega) (tz64_key x _ hx hx0 c) d f a
open Flt in
theorem zo3 (m L:Nat) (e:Int) (h:Flt.Fits m L e) (f:Nat) (hf:fw m L e=f) (w:World) (hT:UT w):Calls prog 109 #[.float .f64 f] w fun r w'=>r=.returned (.tuple #[.int .u64 (m:Int),.int .i64 e])/\w=w':=by
 have i:=h.fw_lt.2;obtain⟨z,hz,c,_,a⟩:=h.fields;have d:=h.sig_bd;have g:m*2 ^ z<9007199254740992:=by rw[<-c];exact d.2.1
 have j:0<m*2 ^ z:=by rw[<-c];exact d.1
 have l:m<9007199254740992:=by have:=h.hi;have h2:=zex (L+1) h.len;omega
 rw[hf]at a i;have x:=hid (fun W=>zgq f (by omega) W);have c1:=fun W=>zcg f W
 have y:=zsb f (by omega);have b:=hid (zsl (m*2 ^ z) (by omega) (by omega) w hT);rw[zxl m z h.odd (by omega)]at b;obtain⟨M,q⟩:=ex (m*2 ^ z)
 have hdiv:(M:Int) /2 ^ z=(m:Int):=by rw[<-q];push_cast;exact Int.mul_ediv_cancel _ (by have:=Int.pow_pos (n:=2) (m:=z) (by omega);omega)
 rw[q]at b a g j;have hz0:(0:Int)<=(z:Int):=by omega
 have hz1:(z:Int)<=52:=by omega
 have hzn:((z:Int)).toNat=z:=by omega
 rcases a with⟨s,o,p⟩|⟨k,s,B,o,p⟩
 .have C:(f:Int) /4503599627370496=0:=by omega
  have u:=hid p;rw[o]at y;clear h d hf hT c q s o p i g j l;go_enter func109,ntmps109;go_wp2_with fail;refine(x.out _).mono ?_;rintro _ t ⟨rfl,rfl⟩;go_wp2_with fail;refine b.out.mono ?_;rintro _ t ⟨rfl,rfl⟩;go_wp2;go_ret2;refine⟨?_,rfl⟩;rw[u.out];rfl
 .have C:(f:Int) /4503599627370496=(k:Int)+1:=by omega
  have i3:IntKind.i64.wrap ((k:Int)+1)=(k:Int)+1:=IntWalk.i64_in _ (by omega);have i5:((k:Int)+1==0)=false:=by simp;omega
  have v:=or_one (f%4503599627370496) (by omega);rw[o]at v;obtain⟨Q,A⟩:=ex (f%4503599627370496)
  rw[A]at y v;have u:Hid (e=(k:Int)+1-1075+z):=hid (by omega);have hk0:(0:Int)<=(k:Int):=by omega
  have hk1:(k:Int)<=2045:=by omega
  clear h d hf hT c q s o p i g j l A B;go_enter func109,ntmps109;go_wp2_with fail;refine(x.out _).mono ?_;rintro _ t ⟨rfl,rfl⟩;go_wp2_with fail;refine b.out.mono ?_;rintro _ t ⟨rfl,rfl⟩;go_wp2;go_ret2;refine⟨?_,rfl⟩;rw[u.out];rfl
theorem zxy (u:Nat) (hu64:u<18446744073709551616) (w:World) (hT:UT w):
 Calls prog 141 #[.int .u64 u,.int .i64 10] w fun e w'=>e=.returned (.string ⟨(Lib.decDigits u).toArray⟩)/\Below w.heap.size w w':=by
 by_cases hs:u<100
 .have p:(u:Int)<100:=by omega
  have hw:IntKind.i64.wrap (u:Int)=(u:Int):=IntWalk.i64_in _ (by omega);have v:=hid (fun W=>internal_strconv_small u hs W);go_enter func141,ntmps141;go_wp2_with fail;refine(v.out _).mono ?_;rintro e s ⟨rfl,rfl⟩;go_wp2;go_ret;exact⟨rfl,Below.refl _ _⟩
 .have p:¬(u:Int)<100:=by omega
  have c:1<=u:=by omega
  have hnd20:Lib.nDigits u<=20:=by have:=Lib.numDigits_eq u c hu64;split at this<;>omega
  have i:prog.arrayLen 205=24:=by kernel_rfl
  have f:prog.underlying 205=some (.array 24 5):=underlying205;have hsl1:∀W,(Instr.sliceAt 205 (.pointer (some ⟨w.heap.size,0,none⟩)) none (some (.int .i64 (Lib.nDigits u:Int))) none).run prog W=.ok (.slice (some ⟨w.heap.size,0,none⟩) (Lib.nDigits u) 24) W:=fun W=>by
   rw[run_sliceAt_array_h W 205 ⟨w.heap.size,0,none⟩ (by simp[Program.arrayLen,Program.elem,f]) .i64 (Lib.nDigits u:Int) (by omega) (by rw[i];omega)];go_simp
  have d:=Lib.holds_zero0 w 205 (Lib.nDigits u) (by omega);have a:=internal_strconv_formatBase10 w.heap.size 0 24 u (Array.replicate (Lib.nDigits u) 0) (w.alloc (.cells Lib.zeros24 205)) d (by rw[Array.size_replicate];exact Lib.lt_pow_nDigits u) hu64 (by rw[Array.size_replicate];omega);rw[Array.size_replicate]at a;have x:=hid a;have m:=hid d;have o:=hid (fun W (hW:UT W)=>internal_strconv_numDigits u c hu64 W hW.pow);have n:Hid (UT (w.alloc (.cells Lib.zeros24 205))):=hid (UT.stays _ _ hT ((Below.refl _ _).alloc (Nat.le_refl _) _));clear d a i f hT hs c;go_enter func141,ntmps141;go_wp2_with fail;refine(o.out _ n.out).mono ?_;rintro e s ⟨rfl,rfl⟩;go_wp2_with fail;refine x.out.mono ?_;rintro e s ⟨rfl,k,v',g,rfl,l⟩;have hcv:(convert 81 9 (.slice (some ⟨w.heap.size,0,none⟩) (Lib.nDigits u) 24)).run prog ((putRow (fun(b:UInt8)=>Value.int .u8 (b.toNat:Int)) (w.alloc (.cells Lib.zeros24 205)) w.heap.size 0 g).drewN k)=.ok (.string ⟨(Lib.decDigits u).toArray⟩) ((putRow (fun(b:UInt8)=>Value.int .u8 (b.toNat:Int)) (w.alloc (.cells Lib.zeros24 205)) w.heap.size 0 g).drewN k):=by
   have h:=run_convert_bytes_back (P:=prog) ((putRow (fun(b:UInt8)=>Value.int .u8 (b.toNat:Int)) (w.alloc (.cells Lib.zeros24 205)) w.heap.size 0 g).drewN k) 81 9 5 ⟨w.heap.size,0,none⟩ 24 (Lib.decDigits u) underlying81 underlying5 underlying9 (fun j q=>by
    rw[Lib.row_is_numeral l j q,Lib.add_plain,World.cell?_drewN];exact cell?_putRow (fun(b:UInt8)=>Value.int .u8 (b.toNat:Int)) _ w.heap.size 0 _ g m.out (by rw[l.size,Array.size_replicate]) j (by rw[l.size];rw[Lib.decDigits_length]at q;exact q))
   rw[Lib.decDigits_length]at h;exact h
  obtain⟨os,t⟩:=Lib.fin_at w (.cells Lib.zeros24 205) g k 0;have r:=hid t;clear l t;go_wp2;go_ret;refine⟨rfl,?_⟩;rw[r.out];exact Lib.below_grow _ _ (Nat.le_refl _) _ _
theorem zvr (u:Nat) (hu64:u<18446744073709551616) (w:World) (hT:UT w):
 Calls prog 110 #[.int .u64 u,.int .i64 10] w fun e w'=>e=.returned (.string ⟨(Lib.decDigits u).toArray⟩)/\Below w.heap.size w w':=by
 have b:=hid (zxy u hu64 w hT);clear hT;go_enter func110,ntmps110;go_wp2_with fail;refine b.out.mono ?_;rintro e w1 ⟨rfl,a⟩;have c:=hid a;clear a;go_wp2;go_ret;exact⟨rfl,c.out⟩
open Flt in
theorem zo4 (m L:Nat) (e:Int) (h:Flt.Fits m L e) (f:Nat) (hf:fw m L e=f) (w:World) (hT:UT w):Calls prog 80 #[.float .f64 f] w fun r w'=>r=.returned (.string ⟨(Lib.decDigits m++112::Lib.itoa e).toArray⟩)/\Below w.heap.size w w':=by
 have hlt:=h.fw_lt.2;have A:=h.o_zero;have E:=h.o_self;have hmb:m<9007199254740992:=by have:=h.hi;have z:=zex (L+1) h.len;omega
 have C:=hid (fun W=>zkq f (by omega) (by rw[<-hf];exact h.o_max) W);have B:=hid (fun W=>zom f (by omega) W);have t:=hid (fun W i=>zo3 m L e h f hf W i);have he0:=h.e0;have he1:=h.e1;have y:=hid (fun W i=>zvr m (by omega) W i);have j:=hid (fun W i=>zgx e (by omega) (by omega) W i);have F:(Lib.decDigits m).length<=20:=by
  have z:=congrArg List.length (Gr.zo1 20 m (by omega) (by omega));rw[List.length_append,List.length_replicate,Gr.za2]at z;omega
 have G:=zgy e (by omega) (by omega);obtain⟨D,n⟩:∃D:Gr.Str,Lib.decDigits m=D:=⟨_,rfl⟩
 obtain⟨I,s⟩:∃I:Gr.Str,Lib.itoa e=I:=⟨_,rfl⟩
 rw[n]at y F;rw[s]at j G;obtain⟨s1,a⟩:∃x:Gr.Str,[]++D=x:=⟨_,rfl⟩
 have Ls1:s1.length<=30:=by rw[<-a];simp;omega
 have u:=fun W=>zac [] D (by simp;omega) W
 rw[a]at u;obtain⟨s2,b⟩:∃x:Gr.Str,s1++[112]=x:=⟨_,rfl⟩
 have Ls2:s2.length<=40:=by rw[<-b];simp;omega
 have o:=fun W=>zac s1 [112] (by simp;omega) W
 rw[b]at o;obtain⟨s3,g⟩:∃x:Gr.Str,s2++I=x:=⟨_,rfl⟩
 have q:=fun W=>zac s2 I (by omega) W
 rw[g]at q;have H:Hid (D++112::I=s3):=hid (by rw[<-g,<-b,<-a];simp);have c:=hid hT;rw[hf]at A E;rw[n,s];clear h hf hT n s a b g;go_enter func80,ntmps80;go_wp2_with fail;refine(B.out _).mono ?_;rintro r v ⟨rfl,rfl⟩;go_wp2_with fail;refine(C.out _).mono ?_;rintro r v ⟨rfl,rfl⟩;go_wp2_with fail;refine(t.out _ c.out).mono ?_;rintro r v ⟨rfl,rfl⟩;go_wp2_with fail;refine(y.out _ c.out).mono ?_;rintro r w2 ⟨rfl,k⟩;have d:=hid k;clear k;go_wp2_with fail;refine(j.out _ (UT.stays _ _ c.out d.out)).mono ?_;rintro r w3 ⟨rfl,l⟩;have p:=hid (d.out.trans (l.mono d.out.size));clear l;go_wp2;go_ret;rw[H.out];exact⟨rfl,p.out⟩
open Gr
open Go.RowKit
theorem zps {s:Gr.Str} {sh:Nat} {f:Nat->Nat} {p h m c:Nat} (k:ClkIs s p h m c):(clockAt s p=none/\pointO s sh f (p+8)=none)\/∃x:Gr.Ck,clockAt s p=some x/\x.h=h/\x.m=m/\x.s=c/\pointO s sh f (p+8)=finO s sh f x.nanos x.stop:=by
 cases hd:isAt s (p+8) 46 with
 |false=>exact .inr ⟨_,zpp k hd,rfl,rfl,rfl,zk3 hd⟩
 |true=>
  rw[zv6 k hd];unfold pointO;rw[if_pos hd,show p+8+1=p+9 from rfl];by_cases hc:((s.drop (p+9)).takeWhile Gr.dig).length=0\/9<((s.drop (p+9)).takeWhile Gr.dig).length
  .rw[if_pos hc,if_pos hc];exact .inl ⟨rfl,rfl⟩
  .rw[if_neg hc,if_neg hc];exact .inr ⟨_,rfl,rfl,rfl,rfl,rfl⟩
theorem RMem.sh_ {s:Gr.Str} {w:World} {sb rb mb ab fb sh:Nat} {f:Nat->Nat} {nn z p:Nat} {wx:World} (h:RMem s w sb rb mb ab fb sh f nn z p wx) (q:Nat):RMem s w sb rb mb ab fb q f nn z p (wx.setCell ⟨mb,0,none⟩ (.int .i64 (q:Int))):=
 have c:KM mb ab wx (wx.setCell ⟨mb,0,none⟩ (.int .i64 (q:Int))):=KM.ofM (Kept1.set _ _)
 ⟨h.b.trans (c.below h.b.size h.nm h.na),h.n,h.nm,h.na,h.mr,c.blk h.s (h.s.ne_ h.m (by decide)) (h.s.ne_ h.a (by decide)),c.blk h.r h.mr.symm (h.r.ne_ h.a (by decide)),h.m.set_ 0 _,h.a.far (h.a.ne_ h.m (by decide)) _,c.blk h.f (h.f.ne_ h.m (by decide)) (h.f.ne_ h.a (by decide))⟩
structure ClockT (s:Gr.Str) (sh:Nat) (f:Nat->Nat) (p:Nat) (T:Option (Array Value)):Prop where
 no:clockAt s p=none->T=none
 yes:∀(k:Gr.Ck) (f':Nat->Nat),clockAt s p=some k->f' 3=k.h->f' 4=k.m->f' 5=k.s->(∀j,j<3\/6<=j->f' j=f j)->T=finO s (sh+2) f' k.nanos k.stop
theorem zs8 (s:Gr.Str) (hl:s.length<=1073741823) (w wx:World) (sb rb mb ab fb sh:Nat) (f:Nat->Nat) (p:Nat) (T:Option (Array Value)) (HM:Hid (RMem s w sb rb mb ab fb sh f 0 0 p wx)) (hp:p<=s.length) (hsh:sh<=1) (HT:Hid (ClockT s sh f p T/\f 6=0/\f 7=0)) {u3 u8 u9 u10 u11 u12 u13 u14 u15 u16 u17 u18 u19 u20 u21 u22 u23 u24 u25 u26 u27 u28 u29 u30 u31 u32 u33 u34 u35 u36 u37 u38 u39 u40 u41 u42 u43 u44 u45 u46 u47 u48 u49 u50 u51 u52 u53 u54 u55 u56 u57 u58 u59 u60 u61 u62 u63 u64 u65 u66 u67 u68 u69 u70 u71 u72 u73 u74 u75 u76 u77 u78 u79 u80 u81 u82 u83 u84 u85 u86 u87 u88 u89 u90 u91 u92 u93 u94 u95 u96 u97 u98 u99 u100 u101 u102 u103 u104 u105 u106 u107 u108 u109 u110 u111 u112 u113 u114 u115 u116 u117 u118 u119 u120 u121 u122 u123 u124 u125 u126 u127 u128 u129 u130 u131 u132 u133 u134 u135 u136 u137 u138 u139 u140 u141 u142 u143 u144 u145 u146 u147 u148 u149 u150 u151 u152 u153 u154:Value}:
 Code.wp prog (tl 6 (f55.body.getD .skip)) (bodyPost prog f55 (RPost T w)) {tmps:=List.toArray (.string ⟨s.toArray⟩::.pointer (some ⟨sb,0,none⟩)::.pointer (some ⟨rb,0,none⟩)::u3::.pointer (some ⟨mb,0,none⟩)::.pointer (some ⟨ab,0,none⟩)::.pointer (some ⟨fb,0,none⟩)::.func (.func 84) #[] #[.pointer (some ⟨ab,0,none⟩),.pointer (some ⟨sb,0,none⟩),.pointer (some ⟨fb,0,none⟩)]::u8::u9::u10::u11::u12::u13::u14::u15::u16::u17::u18::u19::u20::u21::u22::u23::u24::u25::u26::u27::u28::u29::u30::u31::u32::u33::u34::u35::u36::u37::u38::u39::u40::u41::u42::u43::u44::u45::u46::u47::u48::u49::u50::u51::u52::u53::u54::u55::u56::u57::u58::u59::u60::u61::u62::u63::u64::u65::u66::u67::u68::u69::u70::u71::u72::u73::u74::u75::u76::u77::u78::u79::u80::u81::u82::u83::u84::u85::u86::u87::u88::u89::u90::u91::u92::u93::u94::u95::u96::u97::u98::u99::u100::u101::u102::u103::u104::u105::u106::u107::u108::u109::u110::u111::u112::u113::u114::u115::u116::u117::u118::u119::u120::u121::u122::u123::u124::u125::u126::u127::u128::u129::u130::u131::u132::u133::u134::u135::u136::u137::u138::u139::u140::u141::u142::u143::u144::u145::u146::u147::u148::u149::u150::u151::u152::u153::u154::[]),defers:=[]} wx:=by
 generalize hc0:tl 6 (f55.body.getD .skip)=c0;simp only[tl,f55,Option.getD_some]at hc0;subst hc0;have z:=hid (zdy s hl ab sb fb mb p 2 58 3 3 5 sh f 0 0 2 58 rfl rfl (by omega) (by omega) (by omega) (by omega) (by omega) (by omega) 4 rfl hp wx HM.out.a HM.out.s HM.out.f HM.out.m);go_upto_region 14 with fail;go_cut [48] (fun s48 q=>∃(f':Nat->Nat) (p':Nat),p'<=s.length/\Hid (RMem s w sb rb mb ab fb sh f' 0 0 p' q)/\(s48=.bool true/\Hid (T=none)\/s48=.bool false/\Hid (T=pointO s (sh+2) f' p'/\f' 6=0/\f' 7=0)))
 case first=>
  go_wp2_with fail;refine z.out.mono ?_;rintro e N ⟨D,f',h,⟨rfl,A,i,g,E⟩|⟨rfl,hno,p4,hp4,g⟩⟩
  .have o:Hid (RMem s w sb rb mb ab fb sh f' 0 0 (posAt p 2 3) N):=hid (HM.out.fld D h g);have I:Hid (T=pointO s (sh+2) f' (posAt p 2 3)/\f' 6=0/\f' 7=0):=hid (by
    have S:f' 6=0:=(i 6 (by omega)).trans HT.out.2.1;have Q:f' 7=0:=(i 7 (by omega)).trans HT.out.2.2;refine⟨?_,S,Q⟩;rw[show posAt p 2 3=p+8 from by simp[posAt]];rcases zps (sh:=sh+2) (f:=f') (zv5 A)with⟨B,C⟩|⟨x,B,C,O,L,M⟩
    .rw[C];exact HT.out.1.no B
    .rw[M];exact HT.out.1.yes x f' B C.symm O.symm L.symm (fun j hj=>i j (by omega)))
   clear D h g A i;go_wp2;go_meet;exact⟨f',_,E,o,.inr ⟨rfl,I⟩⟩
  .have o:Hid (RMem s w sb rb mb ab fb sh f' 0 0 p4 N):=hid (HM.out.fld D h g);have d:Hid (T=none):=hid (HT.out.1.no (zx7 hno));clear D h g hno;go_wp2;go_meet;exact⟨f',_,hp4,o,.inl ⟨rfl,d⟩⟩
 case rest=>
 obtain⟨f',p',F,c,t⟩:=hcut;obtain⟨l,y⟩:=ex wc
 rw[y]at c ⊢;clear HM HT z y;go_upto_if 48 with fail;go_cut [] (fun q=>q=l/\Hid (T=pointO s (sh+2) f' p'/\f' 6=0/\f' 7=0))
 case first=>
  rcases t with⟨rfl,d⟩|⟨rfl,k⟩
  .skip
   obtain⟨m0,m1,m2,m3,m4,m5,m6,m7,m8,m9,m10⟩:=zaf c.out.m;obtain⟨x0,x1,x2,x3,x4,x5,x6,x7,x8,x9,x10⟩:=zaf c.out.r;have xf:∀j,l.frozen? ⟨rb,j,none⟩=false:=c.out.r.frozen;go_wp2_with fail;have J:Blk (((((((((((l.setCell ⟨rb,0,none⟩ (.int .i64 (sh:Int))).setCell ⟨rb,1,none⟩ (.int .i64 (f' 0:Int))).setCell ⟨rb,2,none⟩ (.int .i64 (f' 1:Int))).setCell ⟨rb,3,none⟩ (.int .i64 (f' 2:Int))).setCell ⟨rb,4,none⟩ (.int .i64 (f' 3:Int))).setCell ⟨rb,5,none⟩ (.int .i64 (f' 4:Int))).setCell ⟨rb,6,none⟩ (.int .i64 (f' 5:Int))).setCell ⟨rb,7,none⟩ (.int .i64 (f' 6:Int))).setCell ⟨rb,8,none⟩ (.int .i64 (f' 7:Int))).setCell ⟨rb,9,none⟩ (.int .i64 ((0:Nat):Int))).setCell ⟨rb,10,none⟩ (.int .u8 ((0:Nat):Int))) rb 97 (mC sh f' 0 (0:Nat)):=za8 c.out.r;obtain⟨e0,B,C,O,L,M,e6,e7,e8,e9,e10⟩:=zaf J;have H:Below w.heap.size w (((((((((((l.setCell ⟨rb,0,none⟩ (.int .i64 (sh:Int))).setCell ⟨rb,1,none⟩ (.int .i64 (f' 0:Int))).setCell ⟨rb,2,none⟩ (.int .i64 (f' 1:Int))).setCell ⟨rb,3,none⟩ (.int .i64 (f' 2:Int))).setCell ⟨rb,4,none⟩ (.int .i64 (f' 3:Int))).setCell ⟨rb,5,none⟩ (.int .i64 (f' 4:Int))).setCell ⟨rb,6,none⟩ (.int .i64 (f' 5:Int))).setCell ⟨rb,7,none⟩ (.int .i64 (f' 6:Int))).setCell ⟨rb,8,none⟩ (.int .i64 (f' 7:Int))).setCell ⟨rb,9,none⟩ (.int .i64 ((0:Nat):Int))).setCell ⟨rb,10,none⟩ (.int .u8 ((0:Nat):Int))):=zcm c.out.b c.out.n;refine bodyPost_ret (v:=.tuple #[.agg #[.int .i64 (sh:Int),.int .i64 (f' 0:Int),.int .i64 (f' 1:Int),.int .i64 (f' 2:Int),.int .i64 (f' 3:Int),.int .i64 (f' 4:Int),.int .i64 (f' 5:Int),.int .i64 (f' 6:Int),.int .i64 (f' 7:Int),.int .i64 ((0:Nat):Int),.int .u8 ((0:Nat):Int)],.bool false]) (by rw[results_cell_tmp rfl];go_simp) rfl ?_;have K:T=none:=d.out;unfold RPost;rw[K];exact⟨H,sh,f',0,(0:Nat),rfl,fun x P=>by cases P⟩
  .go_wp2;go_meet;exact⟨rfl,k⟩
 case rest=>
 obtain⟨u,k⟩:=hcut;rw[u];clear t u;refine(‹∀(a:Act) (w_1:World),Code.wp prog _ _ a w_1->_›) _ _ ?_;have qM0:l.cell? ⟨mb,0,none⟩=some (.int .i64 (sh:Int)):=c.out.m.cell 0;have qMF:∀j,l.frozen? ⟨mb,j,none⟩=false:=c.out.m.frozen;go_upto_region 16 with fail;have G:Hid (∀v:Value,v=.int .i64 ((sh:Int)+2)->RMem s w sb rb mb ab fb (sh+2) f' 0 0 p' (World.setCell l ⟨mb,0,none⟩ v)):=hid (fun v R=>by
  rw[R,show(sh:Int)+2=((sh+2:Nat):Int)from by omega];exact c.out.sh_ _)
 go_cut [] (fun q=>Hid (RMem s w sb rb mb ab fb (sh+2) f' 0 0 p' q))
 case first=>
  go_wp2;go_meet;exact hid (G.out _ rfl)
 case rest=>
 refine(‹∀(a:Act) (w_1:World),Code.wp prog _ _ a w_1->_›) _ _ ?_;exact zs7 s hl w _ sb rb mb ab fb (sh+2) f' p' T hcut F (by omega) k
theorem zfb (sh:Int) (y m d h mi c nanos:Nat) (zh zm z:Int) (hy:y<=9999) (hm:m<=99) (hd:d<=99) (hh:h<=99) (hmi:mi<=99) (hc:c<=99) (hn:nanos<=999999999) (hn0:sh=1->nanos=0) (w:World) (hT:UT w):
 Calls prog 87 #[.agg #[.int .i64 sh,.int .i64 (y:Int),.int .i64 (m:Int),.int .i64 (d:Int),.int .i64 (h:Int),.int .i64 (mi:Int),.int .i64 (c:Int),.int .i64 zh,.int .i64 zm,.int .i64 (nanos:Int),.int .u8 z]] w fun e w'=>e=.returned (.string ⟨((if sh=2 then[]else dateS y m d)++(if sh=3 then[84]else[])++(if sh=1 then[]else clkS h mi c nanos):Gr.Str).toArray⟩)/\Below w.heap.size w w':=by
 have HT:=hid hT;have aK:=hid hn0;clear hT hn0;have G:=hid (fun(W:World) (hW:UT W)=>zcb y 4 (y:Int) 4 rfl rfl (by omega) (by omega) (by omega) W hW);have az:=za2 4 y;have I:=hid (fun(W:World) (hW:UT W)=>zcb m 2 (m:Int) 2 rfl rfl (by omega) (by omega) (by omega) W hW);have av:=za2 2 m;have K:=hid (fun(W:World) (hW:UT W)=>zcb d 2 (d:Int) 2 rfl rfl (by omega) (by omega) (by omega) W hW);have aA:=za2 2 d;have aa:=hid (fun(W:World) (hW:UT W)=>zcb h 2 (h:Int) 2 rfl rfl (by omega) (by omega) (by omega) W hW);have ao:=za2 2 h;have Q:=hid (fun(W:World) (hW:UT W)=>zcb mi 2 (mi:Int) 2 rfl rfl (by omega) (by omega) (by omega) W hW);have ag:=za2 2 mi;have Z:=hid (fun(W:World) (hW:UT W)=>zcb c 2 (c:Int) 2 rfl rfl (by omega) (by omega) (by omega) W hW);have ad:=za2 2 c;have aw:=hid (fun(W:World) (hW:UT W)=>zcb nanos 9 (nanos:Int) 9 rfl rfl (by omega) (by omega) (by omega) W hW);have ar:=za2 9 nanos;obtain⟨py,N⟩:=ex (Gr.pd 4 y)
 rw[N]at G az;obtain⟨pm,M⟩:=ex (Gr.pd 2 m)
 rw[M]at I av;obtain⟨pd,P⟩:=ex (Gr.pd 2 d)
 rw[P]at K aA;obtain⟨ph,O⟩:=ex (Gr.pd 2 h)
 rw[O]at aa ao;obtain⟨pi,R⟩:=ex (Gr.pd 2 mi)
 rw[R]at Q ag;obtain⟨pc,Y⟩:=ex (Gr.pd 2 c)
 rw[Y]at Z ad;obtain⟨J,L⟩:=ex (Gr.pd 9 nanos)
 rw[L]at aw ar;have F:Hid (dateS y m d=py++[45]++pm++[45]++pd/\clkS h mi c nanos=ph++[58]++pi++[58]++pc++nanoS nanos/\nanoS nanos=(if nanos=0 then[]else 46::trimZ J)):=hid ⟨by simp only[dateS,N,M,P];simp,by simp only[clkS,O,R,Y];simp,by simp only[nanoS,L]⟩;clear N M P O R Y L;obtain⟨r,hr⟩:∃r:Gr.Str,((if sh=2 then[]else dateS y m d)++(if sh=3 then[84]else[])++(if sh=1 then[]else clkS h mi c nanos):Gr.Str)=r:=⟨_,rfl⟩
 have a4:=hid hr;rw[hr];clear hr;obtain⟨l,q⟩:=ex w.heap.size
 obtain⟨a,X⟩:∃a,a=w.alloc (.cells #[.int .i64 sh,.int .i64 (y:Int),.int .i64 (m:Int),.int .i64 (d:Int),.int .i64 (h:Int),.int .i64 (mi:Int),.int .i64 (c:Int),.int .i64 zh,.int .i64 zm,.int .i64 (nanos:Int),.int .u8 z] 97):=⟨_,rfl⟩
 have b:Hid (Blk a l 97 #[.int .i64 sh,.int .i64 (y:Int),.int .i64 (m:Int),.int .i64 (d:Int),.int .i64 (h:Int),.int .i64 (mi:Int),.int .i64 (c:Int),.int .i64 zh,.int .i64 zm,.int .i64 (nanos:Int),.int .u8 z]/\Below l w a/\UT a):=hid (by
  rw[X,<-q];exact⟨Blk.new _ _ _,(Below.refl _ _).alloc (Nat.le_refl _) _,UT.stays _ _ HT.out ((Below.refl _ _).alloc (Nat.le_refl _) _)⟩)
 have g:Hid (∀W:WB a.heap.size a,UT W.w):=hid (fun W=>UT.stays _ _ b.out.2.2 W.h);have aM:=hid q;have aq:Hid (∀W:WB a.heap.size a,Calls prog 114 #[.int .i64 (y:Int),.int .i64 4] W.w fun e w'=>e=.returned (.string ⟨py.toArray⟩)/\Below a.heap.size a w'):=hid (fun W=>(G.out W.w (g.out W)).mono (fun _ _ ⟨n,p⟩=>⟨n,W.h.trans (p.mono W.h.size)⟩));have ax:Hid (∀W:WB a.heap.size a,Calls prog 114 #[.int .i64 (m:Int),.int .i64 2] W.w fun e w'=>e=.returned (.string ⟨pm.toArray⟩)/\Below a.heap.size a w'):=hid (fun W=>(I.out W.w (g.out W)).mono (fun _ _ ⟨n,p⟩=>⟨n,W.h.trans (p.mono W.h.size)⟩));have an:Hid (∀W:WB a.heap.size a,Calls prog 114 #[.int .i64 (d:Int),.int .i64 2] W.w fun e w'=>e=.returned (.string ⟨pd.toArray⟩)/\Below a.heap.size a w'):=hid (fun W=>(K.out W.w (g.out W)).mono (fun _ _ ⟨n,p⟩=>⟨n,W.h.trans (p.mono W.h.size)⟩));have al:Hid (∀W:WB a.heap.size a,Calls prog 114 #[.int .i64 (h:Int),.int .i64 2] W.w fun e w'=>e=.returned (.string ⟨ph.toArray⟩)/\Below a.heap.size a w'):=hid (fun W=>(aa.out W.w (g.out W)).mono (fun _ _ ⟨n,p⟩=>⟨n,W.h.trans (p.mono W.h.size)⟩));have ai:Hid (∀W:WB a.heap.size a,Calls prog 114 #[.int .i64 (mi:Int),.int .i64 2] W.w fun e w'=>e=.returned (.string ⟨pi.toArray⟩)/\Below a.heap.size a w'):=hid (fun W=>(Q.out W.w (g.out W)).mono (fun _ _ ⟨n,p⟩=>⟨n,W.h.trans (p.mono W.h.size)⟩));have ae:Hid (∀W:WB a.heap.size a,Calls prog 114 #[.int .i64 (c:Int),.int .i64 2] W.w fun e w'=>e=.returned (.string ⟨pc.toArray⟩)/\Below a.heap.size a w'):=hid (fun W=>(Z.out W.w (g.out W)).mono (fun _ _ ⟨n,p⟩=>⟨n,W.h.trans (p.mono W.h.size)⟩));clear G I K aa Q Z;go_enter func87,ntmps87;go_upto_region 2 with fail;(try rw[<-X]);(try rw[q]);clear X q;have T:a.cell? ⟨l,0,none⟩=some (.int .i64 sh):=(b.out.1.below (Below.refl _ _) b.out.1.lt).cell 0;go_upto_if 6 with fail;go_cut [3] (fun s3 wx=>∃S:Gr.Str,s3=.string ⟨S.toArray⟩/\S.length<=60/\Hid (S=(if sh=2 then[]else dateS y m d)/\Below a.heap.size a wx))
 case first=>
  by_cases h2:sh=2
  .have aR:(sh != 2)=false:=by simp[h2]
   have o:Hid (([]:Gr.Str)=if sh=2 then[]else dateS y m d):=hid (by rw[if_pos h2]);clear h2;go_wp2;go_meet;exact⟨[],rfl,by simp,hid ⟨o.out,Below.refl _ _⟩⟩
  .have aR:(sh != 2)=true:=by simpa using h2
   have o:Hid ((if sh=2 then[]else dateS y m d)=dateS y m d):=hid (by rw[if_neg h2]);clear h2;go_upto_region 3 with fail;clear T;have p1:∀W:WB a.heap.size a,W.w.cell? ⟨l,1,none⟩=some (.int .i64 (y:Int)):=fun W=>(b.out.1.below W.h b.out.1.lt).cell 1
   have p2:∀W:WB a.heap.size a,W.w.cell? ⟨l,2,none⟩=some (.int .i64 (m:Int)):=fun W=>(b.out.1.below W.h b.out.1.lt).cell 2
   have p3:∀W:WB a.heap.size a,W.w.cell? ⟨l,3,none⟩=some (.int .i64 (d:Int)):=fun W=>(b.out.1.below W.h b.out.1.lt).cell 3
   obtain⟨s1,u⟩:∃x:Gr.Str,py++[45]=x:=⟨_,rfl⟩
   have Ls1:s1.length<=20:=by rw[<-u];simp<;>omega
   have a1:=fun W=>zac py [45] (by first|omega| (simp<;>omega)) W
   rw[u]at a1;have aF:=hid u;clear u;obtain⟨s2,D⟩:∃x:Gr.Str,s1++pm=x:=⟨_,rfl⟩
   have Ls2:s2.length<=30:=by rw[<-D];simp<;>omega
   have aB:=fun W=>zac s1 pm (by first|omega| (simp<;>omega)) W
   rw[D]at aB;have aJ:=hid D;clear D;obtain⟨s3,A⟩:∃x:Gr.Str,s2++[45]=x:=⟨_,rfl⟩
   have Ls3:s3.length<=40:=by rw[<-A];simp<;>omega
   have a5:=fun W=>zac s2 [45] (by first|omega| (simp<;>omega)) W
   rw[A]at a5;have a6:=hid A;clear A;obtain⟨s4,C⟩:∃x:Gr.Str,s3++pd=x:=⟨_,rfl⟩
   have aZ:s4.length<=60:=by rw[<-C];simp<;>omega
   have aY:=fun W=>zac s3 pd (by first|omega| (simp<;>omega)) W
   rw[C]at aY;have aW:=hid C;clear C;refine zab a.heap.size a (by kernel_rfl) (by kernel_rfl) (Below.refl _ _) ?_
   iterate 17 (try go_big_quiet_step ((first| (with_reducible refine Calls.grow (aq.out _))| (with_reducible refine Calls.grow (ax.out _))| (with_reducible refine Calls.grow (an.out _)))))
   refine wpQuiet_nil ?_;rintro _ ⟨wz,rfl⟩;go_wp2;go_meet;exact⟨s4,rfl,aZ,hid ⟨by rw[o.out,F.out.1,<-aW.out,<-a6.out,<-aJ.out,<-aF.out],wz.h⟩⟩
 case rest=>
 obtain⟨S,rfl,hS,HS⟩:=hcut;clear T;have T:wc.cell? ⟨l,0,none⟩=some (.int .i64 sh):=(b.out.1.below HS.out.2 b.out.1.lt).cell 0;go_upto_region 4 with fail;obtain⟨wk,aC⟩:∃wk,wk=wc:=⟨_,rfl⟩
 subst aC;go_upto_if 25 with fail;go_cut [3] (fun s3 wx=>∃U:Gr.Str,s3=.string ⟨U.toArray⟩/\U.length<=61/\Hid (U=S++(if sh=3 then[84]else[])/\wx=wk))
 case first=>
  by_cases h3:sh=3
  .have aV:(sh==3)=true:=by simp[h3]
   have o:Hid ((if sh=3 then([84]:Gr.Str)else[])=[84]):=hid (by rw[if_pos h3]);clear h3;obtain⟨s5,t⟩:∃x:Gr.Str,S++[84]=x:=⟨_,rfl⟩
   have aU:s5.length<=61:=by rw[<-t];simp<;>omega
   have aD:=fun W=>zac S [84] (by first|omega| (simp<;>omega)) W
   rw[t]at aD;have a0:=hid t;clear t;go_wp2;go_meet;exact⟨s5,rfl,aU,hid ⟨by rw[o.out,a0.out],rfl⟩⟩
  .have aV:(sh==3)=false:=by simpa using h3
   have o:Hid ((if sh=3 then([84]:Gr.Str)else[])=[]):=hid (by rw[if_neg h3]);clear h3;go_wp2;go_meet;exact⟨S,rfl,by omega,hid ⟨by rw[o.out];simp,rfl⟩⟩
 case rest=>
 obtain⟨U,rfl,hU,HU⟩:=hcut;obtain⟨wm,aI⟩:∃wm,wm=wc:=⟨_,rfl⟩
 subst aI;have H:Hid (Below a.heap.size a wm):=hid (by rw[HU.out.2];exact HS.out.2);clear T;have T:wm.cell? ⟨l,0,none⟩=some (.int .i64 sh):=(b.out.1.below H.out b.out.1.lt).cell 0;go_upto_region 6 with fail;go_upto_if 30 with fail;go_cut [3] (fun s3 wx=>∃V:Gr.Str,s3=.string ⟨V.toArray⟩/\V.length<=160/\Hid (U++(if sh=1 then[]else clkS h mi c nanos)=V++nanoS nanos/\Below a.heap.size a wx))
 case first=>
  by_cases h1:sh=1
  .have aT:(sh != 1)=false:=by simp[h1]
   have o:Hid (U++(if sh=1 then[]else clkS h mi c nanos)=U++nanoS nanos):=hid (by rw[if_pos h1,aK.out h1];rfl);clear h1;go_wp2;go_meet;exact⟨U,rfl,by omega,hid ⟨o.out,H.out⟩⟩
  .have aT:(sh != 1)=true:=by simpa using h1
   have o:Hid ((if sh=1 then[]else clkS h mi c nanos)=clkS h mi c nanos):=hid (by rw[if_neg h1]);clear h1;go_upto_region 7 with fail;clear T;have p4:∀W:WB a.heap.size a,W.w.cell? ⟨l,4,none⟩=some (.int .i64 (h:Int)):=fun W=>(b.out.1.below W.h b.out.1.lt).cell 4
   have p5:∀W:WB a.heap.size a,W.w.cell? ⟨l,5,none⟩=some (.int .i64 (mi:Int)):=fun W=>(b.out.1.below W.h b.out.1.lt).cell 5
   have p6:∀W:WB a.heap.size a,W.w.cell? ⟨l,6,none⟩=some (.int .i64 (c:Int)):=fun W=>(b.out.1.below W.h b.out.1.lt).cell 6
   obtain⟨s6,v⟩:∃x:Gr.Str,ph++[58]=x:=⟨_,rfl⟩
   have Ls6:s6.length<=20:=by rw[<-v];simp<;>omega
   have aG:=fun W=>zac ph [58] (by first|omega| (simp<;>omega)) W
   rw[v]at aG;have aN:=hid v;clear v;obtain⟨s7,s⟩:∃x:Gr.Str,s6++pi=x:=⟨_,rfl⟩
   have Ls7:s7.length<=30:=by rw[<-s];simp<;>omega
   have aS:=fun W=>zac s6 pi (by first|omega| (simp<;>omega)) W
   rw[s]at aS;have aO:=hid s;clear s;obtain⟨s8,E⟩:∃x:Gr.Str,s7++[58]=x:=⟨_,rfl⟩
   have Ls8:s8.length<=40:=by rw[<-E];simp<;>omega
   have aH:=fun W=>zac s7 [58] (by first|omega| (simp<;>omega)) W
   rw[E]at aH;have aL:=hid E;clear E;obtain⟨s9,B⟩:∃x:Gr.Str,s8++pc=x:=⟨_,rfl⟩
   have Ls9:s9.length<=60:=by rw[<-B];simp<;>omega
   have aP:=fun W=>zac s8 pc (by first|omega| (simp<;>omega)) W
   rw[B]at aP;have a2:=hid B;clear B;obtain⟨s10,j⟩:∃x:Gr.Str,U++s9=x:=⟨_,rfl⟩
   have ay:s10.length<=160:=by rw[<-j];simp<;>omega
   have au:=fun W=>zac U s9 (by first|omega| (simp<;>omega)) W
   rw[j]at au;have am:=hid j;clear j;refine zab a.heap.size a (by kernel_rfl) (by kernel_rfl) H.out ?_
   iterate 19 (try go_big_quiet_step ((first| (with_reducible refine Calls.grow (al.out _))| (with_reducible refine Calls.grow (ai.out _))| (with_reducible refine Calls.grow (ae.out _)))))
   refine wpQuiet_nil ?_;rintro _ ⟨wy,rfl⟩;go_wp2;go_meet;exact⟨s10,rfl,ay,hid ⟨by rw[o.out,F.out.2.1,<-am.out,<-a2.out,<-aL.out,<-aO.out,<-aN.out];simp,wy.h⟩⟩
 case rest=>
 obtain⟨V,rfl,hV,HV⟩:=hcut;clear T;have q9:wc.cell? ⟨l,9,none⟩=some (.int .i64 (nanos:Int)):=(b.out.1.below HV.out.2 b.out.1.lt).cell 9;have HZ:Hid (∀W,Below a.heap.size a W->Below w.heap.size w W):=hid (fun W hW=>by rw[aM.out];exact b.out.2.1.trans (hW.mono (Nat.le_of_lt b.out.1.lt)));have ab:Hid (r=V++nanoS nanos):=hid (by rw[<-a4.out,<-HV.out.1,HU.out.1,HS.out.1]);by_cases hz:0<nanos
 .have a3:(0:Int)<(nanos:Int):=by omega
  have ac:Hid (∀W,Calls prog 115 #[.string ⟨J.toArray⟩,.string ⟨#[48]⟩] W fun e w'=>e=.returned (.string ⟨(trimZ J).toArray⟩)/\w'=W):=hid (fun W=>strings_TrimRight_one ⟨J.toArray⟩ 48 (by decide) W (by show J.toArray.size<=_;simp;omega));have aX:(trimZ J).length<=9:=by unfold trimZ;rw[List.length_reverse];exact Nat.le_trans (List.dropWhile_sublist _).length_le (by rw[List.length_reverse];omega)
  obtain⟨f,hf⟩:=ex (trimZ J)
  have aQ:=hid hf;rw[hf]at ac aX;clear hf;obtain⟨s11,i⟩:∃x:Gr.Str,[46]++f=x:=⟨_,rfl⟩
  have Ls11:s11.length<=20:=by rw[<-i];simp<;>omega
  have ah:=fun W=>zac [46] f (by first|omega| (simp<;>omega)) W
  rw[i]at ah;have ap:=hid i;clear i;obtain⟨s12,k⟩:∃x:Gr.Str,V++s11=x:=⟨_,rfl⟩
  have Ls12:s12.length<=200:=by rw[<-k];simp<;>omega
  have ak:=fun W=>zac V s11 (by first|omega| (simp<;>omega)) W
  rw[k]at ak;have af:=hid k;clear k;have HE:Hid (r=s12):=hid (by rw[ab.out,F.out.2.2,if_neg (by omega),aQ.out,<-af.out,<-ap.out];simp);have aE:=hid (aw.out wc (g.out ⟨wc,HV.out.2⟩));clear hz;go_wp2_with fail;refine aE.out.mono ?_;rintro e w5 ⟨rfl,aj⟩;have a7:Hid (Below a.heap.size a w5):=hid (HV.out.2.trans (aj.mono HV.out.2.size));clear aj q9;go_wp2_with fail;refine(ac.out _).mono ?_;rintro e w6 ⟨rfl,rfl⟩;go_wp2;go_ret;exact⟨by rw[HE.out]<;>rfl,HZ.out _ a7.out⟩
 .have a3:¬(0:Int)<(nanos:Int):=by omega
  have HE:Hid (r=V):=hid (by rw[ab.out,F.out.2.2,if_pos (by omega)];simp);go_wp2;go_ret;exact⟨by rw[HE.out]<;>rfl,HZ.out _ HV.out.2⟩
theorem zwd (y m d h mi c nanos:Nat) (zh zm z:Int) (hy:y<=9999) (hm:m<=99) (hd:d<=99) (hh:h<=99) (hmi:mi<=99) (hc:c<=99) (hn:nanos<=999999999) (hn0:nanos=0) (w:World) (hT:UT w):
 Calls prog 87 #[.agg #[.int .i64 1,.int .i64 (y:Int),.int .i64 (m:Int),.int .i64 (d:Int),.int .i64 (h:Int),.int .i64 (mi:Int),.int .i64 (c:Int),.int .i64 zh,.int .i64 zm,.int .i64 (nanos:Int),.int .u8 z]] w fun e w'=>e=.returned (.string ⟨((dateS y m d):Gr.Str).toArray⟩)/\Below w.heap.size w w':=by
 simpa using zfb 1 y m d h mi c nanos zh zm z hy hm hd hh hmi hc hn (fun _=>hn0) w hT
theorem zwe (y m d h mi c nanos:Nat) (zh zm z:Int) (hy:y<=9999) (hm:m<=99) (hd:d<=99) (hh:h<=99) (hmi:mi<=99) (hc:c<=99) (hn:nanos<=999999999) (w:World) (hT:UT w):
 Calls prog 87 #[.agg #[.int .i64 2,.int .i64 (y:Int),.int .i64 (m:Int),.int .i64 (d:Int),.int .i64 (h:Int),.int .i64 (mi:Int),.int .i64 (c:Int),.int .i64 zh,.int .i64 zm,.int .i64 (nanos:Int),.int .u8 z]] w fun e w'=>e=.returned (.string ⟨((clkS h mi c nanos):Gr.Str).toArray⟩)/\Below w.heap.size w w':=by
 simpa using zfb 2 y m d h mi c nanos zh zm z hy hm hd hh hmi hc hn (by intro h;omega) w hT
theorem zpz (y m d h mi c nanos:Nat) (zh zm z:Int) (hy:y<=9999) (hm:m<=99) (hd:d<=99) (hh:h<=99) (hmi:mi<=99) (hc:c<=99) (hn:nanos<=999999999) (w:World) (hT:UT w):
 Calls prog 87 #[.agg #[.int .i64 3,.int .i64 (y:Int),.int .i64 (m:Int),.int .i64 (d:Int),.int .i64 (h:Int),.int .i64 (mi:Int),.int .i64 (c:Int),.int .i64 zh,.int .i64 zm,.int .i64 (nanos:Int),.int .u8 z]] w fun e w'=>e=.returned (.string ⟨((dateS y m d++[84]++clkS h mi c nanos):Gr.Str).toArray⟩)/\Below w.heap.size w w':=by
 simpa using zfb 3 y m d h mi c nanos zh zm z hy hm hd hh hmi hc hn (by intro h;omega) w hT
noncomputable def osP (n:Int) (nanos:Nat):Gr.Str×Nat:=if n< -62167219200\/253402300800<=n then([],13)else(momS (n /86400) (n%86400).toNat nanos,0)
def zc7 (r:Gr.Str×Nat) (w:World) (e:Ending) (w':World):Prop:=e=.returned (.tuple #[.string ⟨r.1.toArray⟩,.int .i64 (r.2:Nat)])/\Below w.heap.size w w'
theorem ztc {n:Int} {y m d:Int} (hv:Cal.vld y m d=true) (hn:Cal.num y m d=n):∃a b c:Nat,y=a/\m=b/\d=c/\a<=9999/\b<=99/\c<=99/\dateOf n=(a,b,c):=by
 have h:=Cal.zoz hv;have hd:=Cal.zxu y m;refine⟨y.toNat,m.toNat,d.toNat,by omega,by omega,by omega,by omega,by omega,by omega,?_⟩;apply zh2
 .rw[show((y.toNat:Nat):Int)=y from by omega,show((m.toNat:Nat):Int)=m from by omega,show((d.toNat:Nat):Int)=d from by omega];exact hv
 .rw[show((y.toNat:Nat):Int)=y from by omega,show((m.toNat:Nat):Int)=m from by omega,show((d.toNat:Nat):Int)=d from by omega,hn]
theorem zyz (n:Int):-86400<n.tmod 86400/\n.tmod 86400<86400/\n=86400*n.tdiv 86400+n.tmod 86400:=by
 have h1:=Int.mul_tdiv_add_tmod n 86400;have h2:=Int.tmod_lt_of_pos n (b:=86400) (by omega);have a:=Int.tmod_lt_of_pos (-n) (b:=86400) (by omega);rw[Int.neg_tmod]at a;omega
theorem zha (n:Int) (nanos:Nat) (j:Int) (hj:j=(nanos:Int)) (hna:nanos<=999999999) (h0:-900000000000<=n) (h1:n<=900000000000) (w:World) (hT:UT w):
 Calls prog 57 #[.int .i64 n,.int .i64 j] w (zc7 (osP n nanos) w):=by
 subst hj;have HT:=hid hT;clear hT;have hna0:¬(nanos:Int)<0:=by omega
 have hna1:¬(999999999:Int)<(nanos:Int):=by omega
 by_cases hlo:n< -62167219200
 .have A:Hid (osP n nanos=([],13)):=hid (by unfold osP;rw[if_pos (.inl hlo)]);rw[A.out];go_enter func57,ntmps57;go_wp2;go_ret2;exact⟨rfl,Below.refl _ _⟩
 .by_cases hhi:253402300800<=n
  .have A:Hid (osP n nanos=([],13)):=hid (by unfold osP;rw[if_pos (.inr hhi)]);rw[A.out];go_enter func57,ntmps57;go_wp2;go_ret2;exact⟨rfl,Below.refl _ _⟩
  .obtain⟨D,I⟩:=ex (n /86400)
   obtain⟨R,U⟩:∃R:Nat,(n%86400).toNat=R:=⟨_,rfl⟩
   have H:-719528<=D:=by omega
   have G:D<=2932896:=by omega
   have hR1:R<=86399:=by omega
   have x:Hid (n /86400=D/\n%86400=(R:Int)):=hid ⟨I,by omega⟩;obtain⟨M,N⟩:=ex (momS D R nanos)
   have HM:=hid N;have A:Hid (osP n nanos=(M,0)):=hid (by unfold osP;rw[if_neg (by omega),I,U,N]);rw[A.out];have O:=hid (fun W=>ztb D H G W);clear I U N;go_enter func57,ntmps57;go_upto_region 5 with fail;go_cut [6,7] (fun s6 s7 L=>(∃q t:Int,s6=.int .i64 q/\s7=.int .i64 t/\Hid (n=86400*q+t/\-86400<t/\t<86400))/\L=w)
   case first=>
    by_cases hn0:0<=n
    .go_wp2;go_meet;exact⟨⟨_,_,rfl,rfl,hid ⟨by omega,by omega,by omega⟩⟩,rfl⟩
    .have u:=hid (zyz n);go_wp2;go_meet;exact⟨⟨_,_,rfl,rfl,hid ⟨u.out.2.2,u.out.1,u.out.2.1⟩⟩,rfl⟩
   case rest=>
   obtain⟨⟨q,t,rfl,rfl,f⟩,rfl⟩:=hcut;refine(‹∀(a:Act) (w_1:World),Code.wp prog _ _ a w_1->_›) _ _ ?_;have t0:-86400<t:=f.out.2.1;have t1:t<86400:=f.out.2.2;have q0:-11000000<=q:=by have:=f.out;omega
   have Z:q<=11000000:=by have:=f.out;omega
   go_upto_if 30 with fail;go_cut [6,7] (fun s6 s7 L=>s6=.int .i64 D/\s7=.int .i64 (R:Int)/\L=wc)
   case first=>
    by_cases ht:t<0
    .have C:Hid (q-1=D/\t+86400=(R:Int)):=hid (by have h1:=f.out;have T:=x.out;omega);go_wp2;go_meet;rw[C.out.1,C.out.2];exact⟨rfl,rfl,rfl⟩
    .have C:Hid (q=D/\t=(R:Int)):=hid (by have h1:=f.out;have T:=x.out;omega);go_wp2;go_meet;rw[C.out.1,C.out.2];exact⟨rfl,rfl,rfl⟩
   case rest=>
   obtain⟨rfl,rfl,rfl⟩:=hcut;refine(‹∀(a:Act) (w_1:World),Code.wp prog _ _ a w_1->_›) _ _ ?_;clear t0 t1 q0 Z;go_wp2_with fail;refine(O.out _).mono ?_;rintro e P ⟨y,m,d,rfl,Q,i,p⟩;obtain⟨a,b,c,rfl,rfl,rfl,V,u,hc,r⟩:=ztc Q i;obtain⟨k,z⟩:∃k:Nat,R /3600=k:=⟨_,rfl⟩
   obtain⟨o,F⟩:∃o:Nat,R /60%60=o:=⟨_,rfl⟩
   obtain⟨h,v⟩:∃h:Nat,R%60=h:=⟨_,rfl⟩
   have i1:(R:Int) /3600=(k:Int):=by omega
   have i2:(R:Int) /60%60=(o:Int):=by omega
   have i3:(R:Int)%60=(h:Int):=by omega
   have s:Hid (∀W,UT W->Calls prog 87 #[.agg #[.int .i64 3,.int .i64 (a:Int),.int .i64 (b:Int),.int .i64 (c:Int),.int .i64 (k:Int),.int .i64 (o:Int),.int .i64 (h:Int),.int .i64 0,.int .i64 0,.int .i64 (nanos:Int),.int .u8 0]] W fun e X=>e=.returned (.string ⟨(dateS a b c++[84]++clkS k o h nanos).toArray⟩)/\Below W.heap.size W X):=hid (fun W Y=>zpz a b c k o h nanos 0 0 0 V u hc (by omega) (by omega) (by omega) hna W Y);have B:Hid (M=(dateS a b c++[84]++clkS k o h nanos)++[90]):=hid (by rw[<-HM.out];unfold momS;rw[r,z,F,v];simp);obtain⟨S,K⟩:=ex (dateS a b c++[84]++clkS k o h nanos)
   have hSl:S.length<=1000:=by
    rw[<-K];have T:(nanoS nanos).length<=10:=by
     unfold nanoS;split
     .simp
     .unfold trimZ;rw[List.length_cons,List.length_reverse];have:=(List.dropWhile_sublist (fun c:UInt8=>c==48) (l:=(Gr.pd 9 nanos).reverse)).length_le;rw[List.length_reverse,za2]at this;omega
    simp[dateS,clkS,za2];omega
   rw[K]at s B;have g:Hid (Below wc.heap.size wc P/\UT P):=hid ⟨p,UT.stays _ _ HT.out p⟩;have hadd:=fun W=>zac S [90] (by simp;omega) W
   clear Q i r z F v K p;go_wp2_with fail;refine(s.out _ (UT.stays _ _ g.out.2 ((Below.refl _ _).alloc (Nat.le_refl _) _))).mono ?_;rintro e w2 ⟨rfl,E⟩;have J:Hid (Below wc.heap.size wc w2):=hid ((g.out.1.alloc g.out.1.size _).trans (E.mono (by have:=g.out.1.size;simp;omega)));clear E;go_wp2;go_ret2;unfold zc7;rw[B.out];exact⟨rfl,J.out⟩
end Go.Proofs.YtpjmhafmeieloabGreatDoor

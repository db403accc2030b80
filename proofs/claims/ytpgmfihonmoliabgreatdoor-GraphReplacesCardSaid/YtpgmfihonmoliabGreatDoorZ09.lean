import Derived.Test.YtpgmfihonmoliabGreatDoorZ05
import Derived.StillTailTactics
open _root_.Go.RowKit.Below renaming refl->K2,drew->X8
open _root_.Go.Proofs.YtpgmfihonmoliabGreatDoor.Blk renaming new->Y3
open _root_.Bool renaming and_eq_true->Q3,true_and->X1,not_eq_true'->X3,not_eq_false->V2,eq_iff_iff->V9,and_false->Z0
open _root_.Go.Proofs.YtpgmfihonmoliabGreatDoor.Gr renaming Str->Q0,refs->Q4,succ->Y6,orM->Y8,Nd->Z3
open _root_.Go.Lib renaming decDigits_one->V6
open _root_.List renaming take_of_length_le->K0,replicate->K1,getElem_mem->K3,all_eq_true->K4,range->K5,take_succ_eq_append_getElem->K6,getElem?_eq_getElem->K7,length_append->K8,getD_eq_getElem?_getD->K9,all_eq_false->Q5,mem_iff_getElem->Q7,sum_append->Q8,map_append->Q9,mem_range->Y0,append_assoc->Y1,length_set->Y2,mem_append_right->Y4,getElem?_eq_none->Y5,reverse_append->Y7,sum_cons->Y9,map_cons->X0,foldl_append->X2,mem_flatMap->X4,length_take->X5,range_succ->X6,append_nil->X7,take_zero->X9,getElem?_append_left->U1,getElem?_replicate->U2,take_append_drop->U3,length_replicate->U4,mem_of_mem_take->U5,mem_singleton->U8,getElem?_take->U9,getElem?_set->V0,countP_congr->V1,length_cons->V3,flatMap_def->V4,ext_getElem->V5,length_map->V7,all_append->V8,mem_map->Z2
open _root_.Nat renaming le_refl->Q1,le_trans->Q2,mul_one->U6,mul_le_mul->Z1,succ_mul->Z4,lt_or_ge->Z5,mod_lt->Z6
open _root_.Option renaming getD_some->U7
open _root_.Go.World renaming size_alloc->Q6,setCell->U0
namespace Go.Proofs.YtpgmfihonmoliabGreatDoor
open Gr
open _root_.Go.Proofs.Tryz
open _root_.Go.Lib (hid)
set_option maxRecDepth 100000
set_option maxHeartbeats 16000000
open Go.RowKit
noncomputable def sclX (kind:Int) (text:Q0):Bool:=
 if kind=0 then text.isEmpty else if kind=1 then(decide (text=[116,114,117,101]) || decide (text=[102,97,108,115,101]))
 else if kind=2 then intB text else if kind=3 then(readP text).isSome else if kind=4 then fltP text else if kind=5 then utfB text
 else if kind=6 then true else if kind=7 then insB text else if kind=8 then locB text else false
theorem zaw (k:Int) (t:Q0) (h:sclX k t=true):0<=k/\k<=8:=by
 unfold sclX at h;by_cases h0:k=0
 .omega
 by_cases h1:k=1
 .omega
 by_cases h2:k=2
 .omega
 by_cases h3:k=3
 .omega
 by_cases h4:k=4
 .omega
 by_cases h5:k=5
 .omega
 by_cases h6:k=6
 .omega
 by_cases h7:k=7
 .omega
 by_cases h8:k=8
 .omega
 simp[h0,h1,h2,h3,h4,h5,h6,h7,h8]at h
theorem zvu (t:Q0):sclX 0 t=t.isEmpty:=rfl
theorem zvv (t:Q0):sclX 1 t=(decide (t=[116,114,117,101]) || decide (t=[102,97,108,115,101])):=rfl
theorem zvw (t:Q0):sclX 2 t=intB t:=rfl
theorem zvx (t:Q0):sclX 3 t=(readP t).isSome:=rfl
theorem zvy (t:Q0):sclX 4 t=fltP t:=rfl
theorem zvz (t:Q0):sclX 5 t=utfB t:=rfl
theorem zv0 (t:Q0):sclX 6 t=true:=rfl
theorem zv1 (t:Q0):sclX 7 t=insB t:=rfl
theorem zv3 (t:Q0):sclX 8 t=locB t:=rfl
theorem zv4 (k:Int) (t:Q0) (h:k<0\/8<k):sclX k t=false:=by
 cases hs:sclX k t with
 |false=>rfl
 |true=>have:=zaw k t hs;omega
theorem zn1 (kind:Int) (text:Q0) (h:kind<0\/8<kind):ScalOk UT kind text false:=by
 intro w a;have h0:(kind==0)=false:=by rw[qqq];omega
 have h1:(kind==1)=false:=by rw[qqq];omega
 have h2:(kind==2)=false:=by rw[qqq];omega
 have h3:(kind==3)=false:=by rw[qqq];omega
 have h4:(kind==4)=false:=by rw[qqq];omega
 have h5:(kind==5)=false:=by rw[qqq];omega
 have h6:(kind==6)=false:=by rw[qqq];omega
 have h7:(kind==7)=false:=by rw[qqq];omega
 have h8:(kind==8)=false:=by rw[qqq];omega
 clear a h;go_enter func27,ntmps27;go_wp2;go_ret;exact⟨rfl,K2 _ _⟩
theorem zv5 (kind:Int) (text:Q0) (hl:text.length<=268435455):ScalOk UT kind text (sclX kind text):=by
 have a:text.length<=1073741823:=by omega
 by_cases h:kind<0\/8<kind
 .rw[zv4 _ _ h];exact zn1 _ _ h
 .have b:kind=0\/kind=1\/kind=2\/kind=3\/kind=4\/kind=5\/kind=6\/kind=7\/kind=8:=by omega
  rcases b with rfl|rfl|rfl|rfl|rfl|rfl|rfl|rfl|rfl
  .rw[zvu];exact zix text
  .rw[zvv];exact zrt text
  .rw[zvw];exact zeu text a
  .rw[zvx];exact zup text a
  .rw[zvy];exact zua text a
  .rw[zvz];exact zff text a
  .rw[zv0];exact zns text
  .rw[zv1];exact zul text a
  .rw[zv3];exact zuk text a
def RScal (kind:Int) (text:Q0) (r:Bool):Prop:=∀w,Calls prog 66 #[.int .i64 kind,.string ⟨text.toArray⟩] w fun e w'=>e=.returned (.bool r)/\Below w.heap.size w w'
theorem zxs (text:Q0):RScal 0 text text.isEmpty:=by
 intro w;have ht:=zg4 text;go_enter func66,ntmps66;go_wp2;go_ret;exact⟨rfl,K2 _ _⟩
theorem zxt (text:Q0):RScal 1 text (decide (text=[116,114,117,101]) || decide (text=[102,97,108,115,101])):=by
 intro w;by_cases h1:text=[116,114,117,101]
 .subst h1;go_enter func66,ntmps66;go_wp2;go_ret;exact⟨rfl,K2 _ _⟩
 .have hb1:(text==[116,114,117,101])=false:=by rw[qqq];exact h1
  by_cases h2:text=[102,97,108,115,101]
  .subst h2;go_enter func66,ntmps66;go_wp2;go_ret;exact⟨rfl,K2 _ _⟩
  .have hb2:(text==[102,97,108,115,101])=false:=by rw[qqq];exact h2
   have a:Hid ((decide (text=[116,114,117,101]) || decide (text=[102,97,108,115,101]))=false):=hid (by simp[h1,h2]);rw[a.out];clear h1 h2;go_enter func66,ntmps66;go_wp2;go_ret;exact⟨rfl,K2 _ _⟩
theorem zxu (text:Q0) (hl:text.length<=268435455):RScal 2 text (intB text):=by
 intro w;have b:=hid (zgm text (by omega) w);obtain⟨r,a⟩:=ex (intB text)
 rw[a]at b ⊢;clear a;go_enter func66,ntmps66;go_wp2_with fail;refine b.out.mono ?_;rintro e f ⟨rfl,c⟩;have d:=hid (c▸K2 _ _:Below w.heap.size w f);clear c;go_wp2;go_ret;exact⟨rfl,d.out⟩
theorem zxv (text:Q0) (hl:text.length<=268435455):RScal 3 text (readP text).isSome:=by
 intro w;have a:=hid (zrs text hl w);rw[zwq];obtain⟨r,b⟩:=ex ((readR text).isSome)
 rw[b]at a ⊢;clear b;unfold zca at a;go_enter func66,ntmps66;go_wp2_with fail;refine a.out.mono ?_;rintro e w2 ⟨n,A,l,c,x,rfl,f⟩;have d:=hid f;clear f;go_wp2;go_ret;exact⟨rfl,d.out.alloc d.out.size _⟩
theorem zxw (text:Q0) (hl:text.length<=268435455):RScal 4 text (fltP text):=by
 intro w;have f:=hid (ztt text (by omega) w);rw[zyq];obtain⟨r,g⟩:=ex (fltR text)
 rw[g]at f ⊢;clear g;unfold OfF at f;go_enter func66,ntmps66;go_wp2_with fail;refine f.out.mono ?_;rintro e w2 ⟨⟨a,b,c,d,rfl⟩,i⟩;have h:=hid i;clear i;go_wp2;go_ret;exact⟨rfl,h.out.alloc h.out.size _⟩
theorem zxx (text:Q0) (hl:text.length<=268435455):RScal 5 text (utfB text):=by
 intro w;obtain⟨r,a⟩:=ex (utfB text)
 have c:=hid (Utf.zzi text (by omega) w r (by rw[<-a];unfold utfB;cases Utf.bad text<;>rfl));rw[a];clear a;go_enter func66,ntmps66;go_wp2_with fail;refine c.out.mono ?_;rintro e w2 ⟨rfl,b⟩;have d:=hid b;clear b;go_wp2;go_ret;exact⟨rfl,d.out⟩
theorem zxy (text:Q0):RScal 6 text true:=by
 intro w;go_enter func66,ntmps66;go_wp2;go_ret;exact⟨rfl,K2 _ _⟩
theorem zxz (text:Q0) (hl:text.length<=268435455):RScal 7 text (insB text):=by
 intro w;have b:=hid (zjm text (by omega) w);obtain⟨r,a⟩:=ex (insB text)
 rw[a]at b ⊢;clear a;go_enter func66,ntmps66;go_wp2_with fail;refine b.out.mono ?_;rintro e w2 ⟨rfl,c⟩;have d:=hid c;clear c;go_wp2;go_ret;exact⟨rfl,d.out⟩
theorem zx0 (text:Q0) (hl:text.length<=268435455):RScal 8 text (locB text):=by
 intro w;have b:=hid (znn text (by omega) w);obtain⟨r,a⟩:=ex (locB text)
 rw[a]at b ⊢;clear a;go_enter func66,ntmps66;go_wp2_with fail;refine b.out.mono ?_;rintro e w2 ⟨rfl,c⟩;have d:=hid c;clear c;go_wp2;go_ret;exact⟨rfl,d.out⟩
theorem zk0 (kind:Int) (text:Q0) (h:kind<0\/8<kind):RScal kind text false:=by
 intro w;have h0:(kind==0)=false:=by rw[qqq];omega
 have h1:(kind==1)=false:=by rw[qqq];omega
 have h2:(kind==2)=false:=by rw[qqq];omega
 have h3:(kind==3)=false:=by rw[qqq];omega
 have h4:(kind==4)=false:=by rw[qqq];omega
 have h5:(kind==5)=false:=by rw[qqq];omega
 have h6:(kind==6)=false:=by rw[qqq];omega
 have h7:(kind==7)=false:=by rw[qqq];omega
 have h8:(kind==8)=false:=by rw[qqq];omega
 clear h;go_enter func66,ntmps66;go_wp2;go_ret;exact⟨rfl,K2 _ _⟩
theorem zx1 (kind:Int) (text:Q0) (hl:text.length<=268435455):RScal kind text (sclX kind text):=by
 by_cases h:kind<0\/8<kind
 .rw[zv4 _ _ h];exact zk0 _ _ h
 .have a:kind=0\/kind=1\/kind=2\/kind=3\/kind=4\/kind=5\/kind=6\/kind=7\/kind=8:=by omega
  rcases a with rfl|rfl|rfl|rfl|rfl|rfl|rfl|rfl|rfl
  .rw[zvu];exact zxs text
  .rw[zvv];exact zxt text
  .rw[zvw];exact zxu text hl
  .rw[zvx];exact zxv text hl
  .rw[zvy];exact zxw text hl
  .rw[zvz];exact zxx text hl
  .rw[zv0];exact zxy text
  .rw[zv1];exact zxz text hl
  .rw[zv3];exact zx0 text hl
namespace Gr
def wtN (ns:List Nd) (i:Nat):Nat:=(ns[i]?.map (fun x=>x.text.length+30)).getD 0
def plen (ns:List Nd) (f:Nat) (L:List Nat):Nat:=(L.map (fun i=>(printF ns f i).length)).sum
def wtS (ns:List Nd) (L:List Nat):Nat:=(L.map (wtN ns)).sum
def kids (ns:List Nd) (L:List Nat):List Nat:=L.flatMap (succ ns)
theorem zl7 {l m:List Nat} (h:l.Perm m):l.sum=m.sum:=by
 grind
theorem zgu (n:Nat) (L:List Nat) (hd:L.Nodup) (hL:∀x∈L,x<n):∃R,(L++R).Perm (K5 n):=by
 refine⟨(K5 n).filter (fun x=>decide (x∉L)),?_⟩;refine(zfj (K5 n) _ List.nodup_range (fun x hx=>?_) ?_).symm
 .grind
 .rw[K8,<-List.countP_eq_length_filter,<-zdy n L hd hL];rw[List.length_eq_countP_add_countP (l:=K5 n) (p:=fun i=>decide (i∈L))];apply Nat.le_of_eq
  congr 1
  exact V1 (fun x _=>by simp)
theorem zzj (ns:List Nd) (L:List Nat) (hd:L.Nodup) (hL:∀x∈L,x<ns.length):wtS ns L<=wtS ns (K5 ns.length):=by
 obtain⟨R,a⟩:=zgu ns.length L hd hL;unfold wtS;rw[<-zl7 (a.map (wtN ns)),Q9,Q8];omega
theorem zr0 (ns:List Nd):kids ns (K5 ns.length)=refs ns:=by
 unfold kids refs;rw[V4,V4]
 congr 1
 apply V5
 .simp
 .intro i a h2;simp only[V7,List.length_range]at a;simp[zdb a]
theorem zn2 (ns:List Nd) (L:List Nat) (hd:L.Nodup) (hL:∀x∈L,x<ns.length) (y:Nat):(kids ns L).count y<=(refs ns).count y:=by
 obtain⟨R,a⟩:=zgu ns.length L hd hL;rw[<-zr0];have:=(a.flatMap_right (succ ns)).count_eq y;unfold kids;rw[<-this,List.flatMap_append,List.count_append];omega
theorem dec_len (n:Nat) (h:n<=999999999):(Lib.decDigits n).length<=9:=by
 have:=zqi 9 n (by omega) (by omega);have a:=congrArg List.length this;rw[K8,U4,za9]at a;omega
section
variable {ns:List Nd}
theorem zhy (l:List Str):l.flatten.length=(l.map List.length).sum:=by
 grind
theorem zr1 (f:Nat) (x:Nd) (hk:x.kind=10->x.keys.length=x.items.length):(entS ns f x).flatten.length<=plen ns f (x.keys++x.items):=by
 have d:(entS ns f x).flatten.length=(ents ns f x).flatten.length:=by
  rw[zhy,zhy];unfold entS;split
  .exact zl7 ((zba _).map _)
  .rfl
 rw[d,zhy];unfold ents plen;rw[List.map_map,Q9,Q8];have c:∀l:List Nat,(K5 l.length).map (fun k=>(printF ns f (l.getD k 0)).length)=l.map (fun i=>(printF ns f i).length):=by
  intro l;apply V5
  .simp
  .grind
 have b:∀(l:List Nat) (p q:Nat->Nat),(l.map (fun k=>p k+q k)).sum=(l.map p).sum+(l.map q).sum:=by
  intro l p q
  induction l with
  |nil=>rfl
  |cons a l ih=>simp only[X0,Y9,ih];omega
 by_cases h10:x.kind=10
 .have e:=hk h10;have:(List.length ∘ fun k=>(if x.kind=10 then printF ns f (x.keys.getD k 0)else[])++printF ns f (x.items.getD k 0))=fun k=>(printF ns f (x.keys.getD k 0)).length+(printF ns f (x.items.getD k 0)).length:=by
   funext k;simp[h10]
  rw[this,b,c,<-e,c];exact Q1 _
 .have:(List.length ∘ fun k=>(if x.kind=10 then printF ns f (x.keys.getD k 0)else[])++printF ns f (x.items.getD k 0))=fun k=>(printF ns f (x.items.getD k 0)).length:=by
   funext k;simp[h10]
  rw[this,c];omega
theorem zn3 (hok:NodesOk ns) (hb:∀x∈ns,x.text.length<=999999999/\x.items.length<=999999999) (f i:Nat) (hi:i<ns.length):(printF ns (f+1) i).length<=wtN ns i+plen ns f (succ ns i):=by
 have a:ns[i]∈ns:=K3 hi;have h1:=zr1 (ns:=ns) f ns[i] (hok _ a).2.2;have d1:=dec_len _ (hb _ a).1;have d2:=dec_len _ (hb _ a).2;rw[zan (K7 hi),zdb hi];unfold wtN;rw[K7 hi];simp only[Option.map_some,U7,V3,K8];have:(if ns[i].ord=true then[33]else([]:Str)).length<=1:=by split<;>simp
 omega
theorem zr2 (f:Nat) (L:List Nat):plen ns f (kids ns L)=(L.map (fun i=>plen ns f (succ ns i))).sum:=by
 induction L with
 |nil=>rfl
 |cons a L ih=>
  unfold kids plen at ih ⊢;simp only[List.flatMap_cons,Q9,Q8,X0,Y9,ih]
theorem zn4 (hok:NodesOk ns) (hb:∀x∈ns,x.text.length<=999999999/\x.items.length<=999999999) (f:Nat):∀L:List Nat,(∀x∈L,x<ns.length)->plen ns (f+1) L<=wtS ns L+plen ns f (kids ns L):=by
 intro L b;rw[zr2];unfold plen wtS
 induction L with
 |nil=>simp
 |cons a L ih=>
  have c:=ih (fun x e=>b x (.tail _ e));have d:=zn3 hok hb f a (b a (.head _));unfold plen at d c;simp only[X0,Y9];omega
theorem zx2 (hr:Refs ns) (hok:NodesOk ns) (hb:∀x∈ns,x.text.length<=999999999/\x.items.length<=999999999) {K:Nat->Prop} (hK:∀u,K u->∀v∈succ ns u,K v) (hone:∀x,K x->(refs ns).count x<=1):∀(f:Nat) (L:List Nat),L.Nodup->(∀x∈L,x<ns.length/\K x)->plen ns f L<=f*wtS ns (K5 ns.length):=by
 intro f
 induction f with
 |zero=>
  intro L _ _;unfold plen;have:(L.map (fun i=>(printF ns 0 i).length)).sum=0:=by
   induction L with
   |nil=>rfl
   |cons a L ih=>
    rw[X0,Y9];have l:(printF ns 0 a).length=0:=rfl;rw[l,Nat.zero_add];apply ih
    .grind
    .grind
  rw[this];omega
 |succ f ih=>
  intro L j h;have b:∀x∈L,x<ns.length:=fun x g=>(h x g).1
  have h1:=zn4 hok hb f L b;have h2:=zzj ns L j b;have c:∀x∈kids ns L,x<ns.length/\K x:=by
   intro x g;obtain⟨u,k,d⟩:=X4.1 g;exact⟨hr.succ u x d,hK u (h u k).2 x d⟩
  have e:(kids ns L).Nodup:=by
   rw[List.nodup_iff_count];intro y;by_cases hy:y∈kids ns L
   .exact Q2 (zn2 ns L j b y) (hone y (c y hy).2)
   .grind
  have h3:=ih (kids ns L) e c;rw[Z4];omega
theorem zr3 (hr:Refs ns) (hok:NodesOk ns) (hb:∀x∈ns,x.text.length<=999999999/\x.items.length<=999999999) {K:Nat->Prop} (hK:∀u,K u->∀v∈succ ns u,K v) (hone:∀x,K x->(refs ns).count x<=1) (f i:Nat) (hi:i<ns.length) (hKi:K i):(printF ns f i).length<=f*wtS ns (K5 ns.length):=by
 have:=zx2 hr hok hb hK hone f [i] (by simp) (fun x a=>by rw[U8.1 a];exact⟨hi,hKi⟩);unfold plen at this;simpa using this
end
end Gr
namespace Gr
theorem zx3 {l:List Str} {k:Nat} (h:k<l.length) (hm:l[k]∈l.take k):dupS l=true:=by
 rw[<-V2];intro d;have f:=(zd2 l).1 d;obtain⟨j,c,a⟩:=Q7.1 hm;rw[X5]at c;rw[List.getElem_take]at a;have h2:j<k:=by omega
 exact absurd a (fun e=>absurd ((List.getElem_inj f).1 e) (by omega))
theorem zk1 {l:List Str} {k:Nat} (h:k<l.length) (hn:(l.take k).Nodup) (hm:l[k]∉l.take k):(l.take (k+1)).Nodup:=by
 rw[K6 h,List.nodup_append];refine⟨hn,by simp,fun a d b c=>?_⟩;rw[U8]at c;subst c;exact fun e=>hm (e▸d)
theorem zzk {l:List Str} {k:Nat} (h:l.length<=k) (hn:(l.take k).Nodup):dupS l=false:=by
 rw[K0 h]at hn;exact(zd2 l).2 hn
theorem zn5 {ns:List Nd} {f i:Nat} (h:i<ns.length) (hd:dupS (ns[i].keys.map (printF ns f))=true):rtwice ns f=true:=by
 unfold rtwice;rw[List.any_eq_true];exact⟨_,K3 h,hd⟩
theorem zr4 {ns:List Nd} {f i:Nat} (h:ns.length<=i) (ha:∀j,j<i->∀(hj:j<ns.length),dupS (ns[j].keys.map (printF ns f))=false):rtwice ns f=false:=by
 unfold rtwice;rw[List.any_eq_false];intro x a;obtain⟨j,hj,rfl⟩:=Q7.1 a;rw[ha j (by omega) hj];decide
def mt (ns:List Nd) (v i:Nat):Bool:=mkd (marks ns v) i && mkd (marks ns i) v
def lwt (ns:List Nd) (v k:Nat):Nat:=(K5 k).countP (mt ns v)
theorem zux (ns:List Nd) (v k:Nat):lwt ns v (k+1)=lwt ns v k+(if mt ns v k=true then 1 else 0):=by
 unfold lwt;rw[X6,List.countP_append,List.countP_singleton]
theorem zzl (ns:List Nd) (v k:Nat):lwt ns v k<=k:=by
 unfold lwt;exact Q2 List.countP_le_length (by simp)
def seen (ns:List Nd) (v k:Nat) (P:List Nat) (x:Nat):Prop:=(∃u,u<k/\mt ns v u=true/\x∈succ ns u/\mkd (marks ns x) v=false)\/(x∈P/\mkd (marks ns x) v=false)
structure LBest (ns:List Nd) (F:Nat->Nat) (v k:Nat) (P:List Nat) (b:Nat):Prop where
 ge:∀x,seen ns v k P x->F x<=b
 at_:b=0\/∃x,seen ns v k P x/\b=F x
section
variable {ns:List Nd} {F:Nat->Nat} {v k b:Nat} {P:List Nat}
theorem LBest.start:LBest ns F v 0 [] 0:=⟨by
 rintro x (⟨u,hu,_⟩|⟨h,_⟩)
 .omega
 .simp at h,.inl rfl⟩
theorem LBest.skip (h:LBest ns F v k [] b) (hm:mt ns v k=false):LBest ns F v (k+1) [] b:=by
 have e:∀x,seen ns v (k+1) [] x↔seen ns v k [] x:=by
  intro x;unfold seen;constructor
  .grind
  .grind
 exact⟨fun x a=>h.ge x ((e x).1 a),h.at_.imp id (fun⟨x,h1,h2⟩=>⟨x,(e x).2 h1,h2⟩)⟩
theorem LBest.next (h:LBest ns F v k P b) (hm:mt ns v k=true) (hP:P=succ ns k):LBest ns F v (k+1) [] b:=by
 have e:∀x,seen ns v (k+1) [] x↔seen ns v k P x:=by
  intro x;unfold seen;constructor
  .grind
  .grind
 exact⟨fun x a=>h.ge x ((e x).1 a),h.at_.imp id (fun⟨x,h1,h2⟩=>⟨x,(e x).2 h1,h2⟩)⟩
theorem LBest.old (h:LBest ns F v k P b) {y:Nat} (hy:mkd (marks ns y) v=true):LBest ns F v k (P++[y]) b:=by
 have e:∀x,seen ns v k (P++[y]) x↔seen ns v k P x:=by
  intro x;unfold seen;constructor
  .grind
  .grind
 exact⟨fun x a=>h.ge x ((e x).1 a),h.at_.imp id (fun⟨x,h1,h2⟩=>⟨x,(e x).2 h1,h2⟩)⟩
theorem LBest.new (h:LBest ns F v k P b) {y:Nat} (hy:mkd (marks ns y) v=false):LBest ns F v k (P++[y]) (max b (F y)):=by
 have e:∀x,seen ns v k (P++[y]) x↔seen ns v k P x\/x=y:=by
  intro x;unfold seen;constructor
  .grind
  .grind
 refine⟨fun x a=>?_,?_⟩
 .rcases(e x).1 a with h1|rfl
  .exact Q2 (h.ge x h1) (Nat.le_max_left _ _)
  .exact Nat.le_max_right _ _
 .rcases Nat.le_total b (F y)with h1|h1
  .grind
  .rw[Nat.max_eq_left h1];exact h.at_.imp id (fun⟨x,h2,h3⟩=>⟨x,(e x).2 (.inl h2),h3⟩)
theorem zl8 (hr:Refs ns) (hv:v<ns.length) {i:Nat} (hi:i<ns.length):mt ns v i=true↔Reach (succ ns) v i/\Reach (succ ns) i v:=by
 unfold mt;rw[Q3,za3 hr hv,za3 hr hi]
theorem zr5 (hr:Refs ns) {x:Nat} (hx:x<ns.length):mkd (marks ns x) v=false↔¬Reach (succ ns) x v:=by
 rw[<-za3 hr hx,Bool.not_eq_true]
open Classical in
theorem zzm (hr:Refs ns) (hv:v<ns.length):lwt ns v ns.length=wt (succ ns) ns.length v:=by
 unfold lwt wt;apply V1;intro i a;rw[zl8 hr hv (Y0.1 a),qqv]
theorem LBest.last (hr:Refs ns) (hv:v<ns.length) (hF:LongR (succ ns) ns.length F) (h:LBest ns F v ns.length [] b):lwt ns v ns.length+b=F v:=by
 rw[zzm hr hv];have c:∀x,seen ns v ns.length [] x->wt (succ ns) ns.length v+F x<=F v:=by
  rintro x (⟨u,hu,h1,h2,h3⟩|⟨h1,_⟩)
  .have a:=(zl8 hr hv hu).1 h1;exact hF.up v u hv hu a.1 a.2 x h2 ((zr5 hr (hr.succ u x h2)).1 h3)
  .simp at h1
 have hle:wt (succ ns) ns.length v+b<=F v:=by
  rcases h.at_ with h1|⟨x,h1,rfl⟩
  .subst h1;rcases hF.att v hv with h2|⟨u,_,_,_,x,_,_,h2⟩
   .omega
   .omega
  .exact c x h1
 rcases hF.att v hv with h2|⟨u,hu,h3,a,x,hx,hn,h2⟩
 .omega
 .have:=h.ge x (.inl ⟨u,hu,(zl8 hr hv hu).2 ⟨h3,a⟩,hx,(zr5 hr (hr.succ u x hx)).2 hn⟩);omega
theorem LongR.lt (hF:LongR (succ ns) ns.length F) (hr:Refs ns) (hv:v<ns.length) {u x:Nat} (hu:u<ns.length) (hm:mt ns v u=true) (hx:x∈succ ns u) (hn:mkd (marks ns x) v=false):F x<F v:=by
 have a:=(zl8 hr hv hu).1 hm;have:=hF.up v u hv hu a.1 a.2 x hx ((zr5 hr (hr.succ u x hx)).1 hn);have:=zpu (succ ns) ns.length v hv;omega
theorem LongR.pos (hF:LongR (succ ns) ns.length F) (hv:v<ns.length):0<F v:=by
 have:=zpu (succ ns) ns.length v hv;rcases hF.att v hv with h2|⟨_,_,_,_,_,_,_,h2⟩<;>omega
end
def rtree (ns:List Nd):Bool:=(K5 ns.length).all (fun u=>((ns[u]?.map Nd.items).getD []).all (fun x=>!(mkd (marks ns x) u)))
theorem zr6 {ns:List Nd} (hr:Refs ns):rtree ns=true↔∀(u:Nat) (hu:u<ns.length),∀x∈ns[u].items,¬Reach (succ ns) x u:=by
 unfold rtree;rw[K4];constructor
 .intro h u hu x a;have:=h u (Y0.2 hu);rw[K7 hu,K4]at this;have:=this x a;rw[X3]at this;exact(zr5 hr (hr _ (K3 hu) x (Y4 _ a))).1 this
 .intro h u hu;have hu:=Y0.1 hu;rw[K7 hu,K4];intro x a;rw[X3];exact(zr5 hr (hr _ (K3 hu) x (Y4 _ a))).2 (h u hu x a)
structure WellF (ns:List Nd) (r:Nat):Prop where
 root:r<ns.length
 refs:Refs ns
 ok:NodesOk ns
 all:∀v,v<ns.length->Reach (succ ns) r v
 one:∀x,x<ns.length->mkd (inKeys ns) x=true->(counts ns r).getD x 0=1
theorem zgv {sclr:Int->Str->Bool} (hs:∀k t,sclr k t=true->0<=k/\k<=8) {is:List Ni} {root:Int} (h:rwell sclr is root=true):∃r:Nat,root=(r:Int)/\WellF (is.map Ni.nd) r/\is.all (rng is.length)=true:=by
 unfold rwell at h;split at h
 .cases h
 .rename_i h2;split at h
  .cases h
  .rename_i h3;rw[V2]at h3;have a:inR is.length root=true:=by
    grind
   have c:is.all (rng is.length)=true:=K4.2 (fun x j=>zfk (K4.1 h3 x j));obtain⟨_,e⟩:=za1 c;have d:(is.map Ni.nd).length=is.length:=by simp
   unfold inR at a;rw[Q3,qqv,qqv]at a;have f:root.toNat<(is.map Ni.nd).length:=by rw[d];omega
   have g:∀i,i<(is.map Ni.nd).length->rnode (is.map Ni.nd) root.toNat i=true:=fun i m=>K4.1 h i (Y0.2 (by rw[d]at m;exact m))
   refine⟨root.toNat,by omega,⟨f,e,?_,?_,?_⟩,c⟩
   .intro x j;obtain⟨y,n,rfl⟩:=Z2.1 j;have:=K4.1 h3 y n;rw[zhh sclr is.length y (K4.1 c y n)]at this;exact zi7 hs this
   .intro v o;have:=g v o;unfold rnode at this;rw[Q3]at this;exact(za3 e f v).1 this.1
   .intro x j l;have:=g x j;unfold rnode at this;rw[Q3,l,X1,X3]at this;simpa using this.2
section
variable {ns:List Nd} {r:Nat}
theorem WellF.tall (h:WellF ns r):∀k∈allKeys ns,k<ns.length/\Tall' ns ns.length k:=fun k c=>by
 obtain⟨a,b⟩:=zfc h.refs h.root h.all h.one k c;exact⟨a,zpw ns _ _ b⟩
theorem WellF.keep (h:WellF ns r):∀u,mkd (inKeys ns) u=true->∀v∈succ ns u,mkd (inKeys ns) v=true:=by
 intro u c v e;obtain⟨k,a,d⟩:=(zax h.refs u).1 c;exact(zax h.refs v).2 ⟨k,a,d.trans (.one e)⟩
theorem WellF.key (h:WellF ns r):∀k∈allKeys ns,mkd (inKeys ns) k=true:=fun k a=>(zax h.refs k).2 ⟨k,a,.refl _⟩
theorem WellF.count (h:WellF ns r):∀x,mkd (inKeys ns) x=true->(Q4 ns).count x<=1:=by
 intro x e;by_cases hxl:x<ns.length
 .have:=h.one x hxl e;rw[zcx hxl]at this;split at this<;>omega
 .have:¬x∈Q4 ns:=by
   intro c;obtain⟨n,a,d⟩:=X4.1 c;exact hxl (h.refs n a x d)
  rw[List.count_eq_zero.2 this];omega
theorem zzn {ns:List Nd} (b:Nat) (hb:∀x∈ns,x.text.length+30<=b):∀k,k<=ns.length->wtS ns (K5 k)<=k*b:=by
 intro k
 induction k with
 |zero=>intro _;simp[wtS]
 |succ k ih=>
  intro hk;have h1:=ih (by omega);have h2:=hb _ (K3 (show k<ns.length by omega));have e:wtS ns (K5 (k+1))=wtS ns (K5 k)+wtN ns k:=by unfold wtS;rw[X6];simp
  have a:wtN ns k=ns[k].text.length+30:=by unfold wtN;rw[K7 (by omega)];rfl
  rw[e,a,Z4];omega
theorem WellF.plen (h:WellF ns r) (hn:ns.length<=1000) (hb:∀x∈ns,x.text.length<=1000/\x.items.length<=1000) (f i:Nat) (hf:f<=ns.length) (hi:i<ns.length) (hk:mkd (inKeys ns) i=true):(printF ns f i).length<=2000000000:=by
 have h1:=zr3 h.refs h.ok (fun x a=>⟨by have:=hb x a;omega,by have:=hb x a;omega⟩) h.keep h.count f i hi hk;have c:=zzn 1030 (fun x a=>by have:=hb x a;omega) ns.length (Q1 _);have h3:f*wtS ns (K5 ns.length)<=1000*(1000*1030):=Z1 (by omega) (Q2 c (Z1 hn (Q1 _)));omega
theorem WellF.depth (h:WellF ns r):∃F:Nat->Nat,LongR (succ ns) ns.length F/\(Gr.depth ns r).1=(F r:Int)-1/\(Gr.depth ns r).2=rtree ns:=by
 obtain⟨F,a,c,d⟩:=zpv h.refs h.root h.all;refine⟨F,a,c,?_⟩;rw[V9,d,zr6 h.refs,zm4 h.refs h.root h.all h.one]
end
def few (is:List Ni):Bool:=
 decide (is.length<=40) && (is.all (fun n=>decide (n.text.length<=100/\n.keys.length<=80/\n.items.length<=80)) && (decide ((is.map (fun n=>n.keys.length+n.items.length)).sum<=240) && decide ((is.map (fun n=>n.text.length)).sum<=300)))
theorem zr7 {is:List Ni} (h:few is=true):is.length<=40:=by
 unfold few at h;rw[Q3,qqv]at h;exact h.1
theorem zr8 {is:List Ni} (h:few is=true):∀n∈is,n.text.length<=100/\n.keys.length<=80/\n.items.length<=80:=by
 unfold few at h;rw[Q3,Q3]at h;intro n a;exact qqy (K4.1 h.2.1 n a)
def fsum (is:List Ni) (k:Nat):Nat:=((is.take k).map (fun n=>n.keys.length+n.items.length)).sum
def fbyt (is:List Ni) (k:Nat):Nat:=((is.take k).map (fun n=>n.text.length)).sum
theorem zr9 {is:List Ni} {k:Nat} (h:k<is.length):fsum is (k+1)=fsum is k+(is[k].keys.length+is[k].items.length):=by
 unfold fsum;rw[K6 h,Q9,Q8];rfl
theorem zsa {is:List Ni} {k:Nat} (h:k<is.length):fbyt is (k+1)=fbyt is k+is[k].text.length:=by
 unfold fbyt;rw[K6 h,Q9,Q8];rfl
theorem zx4 {is:List Ni} (h:¬is.length<=40):few is=false:=by
 unfold few;rw[qqx h];rfl
theorem zx5 {is:List Ni} {k:Nat} (h:k<is.length) (hn:¬(is[k].text.length<=100/\is[k].keys.length<=80/\is[k].items.length<=80)):few is=false:=by
 unfold few;have:is.all (fun n=>decide (n.text.length<=100/\n.keys.length<=80/\n.items.length<=80))=false:=by
  grind
 rw[this];simp
theorem zx6 {is:List Ni} {k:Nat} (h:is.length<=k) (h1:is.length<=40) (h2:∀j,j<k->∀(hj:j<is.length),is[j].text.length<=100/\is[j].keys.length<=80/\is[j].items.length<=80):few is=(decide (fsum is k<=240) && decide (fbyt is k<=300)):=by
 unfold few fsum fbyt;rw[K0 h,qqk h1,X1];have:is.all (fun n=>decide (n.text.length<=100/\n.keys.length<=80/\n.items.length<=80))=true:=by
  rw[K4];intro x a;obtain⟨j,hj,rfl⟩:=Q7.1 a;exact qqk (h2 j (by omega) hj)
 rw[this,X1]
end Gr
theorem zrx (s:Q0) (hs:s.length<=1073741823) (w:World):Calls prog 65 #[.string ⟨s.toArray⟩] w fun e w'=>e=.returned (.bool (nameB s))/\w'=w:=by
 have k:Hid (∀r:Bool,r=nameB s↔r=(s.all nameC && decide (1<=s.length) && decide (s.length<=64))):=hid (fun r=>by
  have:nameB s=(s.all nameC && decide (1<=s.length) && decide (s.length<=64)):=rfl;rw[this])
 go_enter func65,ntmps65;go_upto_region 2 with fail;go_loop [3] (fun x=>∃i:Nat,i<=s.length/\x=.int .i64 i/\Hid ((s.take i).all nameC=true)) (fun i=>s.length-(intOf i).toNat)
 case atStart=>exact⟨0,by omega,rfl,hid (by simp)⟩
 case round=>
  obtain⟨i,hi,rfl,q⟩:=hrel;by_cases hil:i<s.length
  .have b:(i:Int)<(s.length:Int):=by omega
   obtain⟨c,f⟩:=ex (s[i])
   have q0:=byte_at s i hil c f;have hbd:c.toNat<256:=c.toNat_lt;have hn:=zif c;have j:Hid ((s.take (i+1)).all nameC=nameC c):=hid (by rw[K6 hil,V8,q.out,f];simp);by_cases hy:nameC c=true
   .have o:Hid ((s.take (i+1)).all nameC=true):=hid (by rw[j.out,hy]);have hn:=hn.1 hy;clear hy j f;rcases hn with hn|hn|hn|hn|hn|hn|hn
    all_goals
     go_wp2;go_round
     case rel=>exact⟨i+1,by omega,by go_num,o⟩
     case measure=>simp[intOf];omega
   .have a:Hid (nameB s=false):=hid (by
     have d:(s.take (i+1)).all nameC=false:=by rw[j.out];simpa using hy
     have g:s.all nameC=false:=by
      cases e:s.all nameC with
      |false=>rfl
      |true=>
       rw[K4]at e;rw[Q5]at d;obtain⟨x,D,n⟩:=d;exact absurd (e x (U5 D)) n
     exact((k.out false).2 (by rw[g];rfl)).symm)
    have hn:=fun h=>hy (hn.2 h)
    have A:¬(97<=c.toNat/\c.toNat<=122):=fun h=>hn (.inl h)
    have u:¬(65<=c.toNat/\c.toNat<=90):=fun h=>hn (.inr (.inl h))
    have z:¬(48<=c.toNat/\c.toNat<=57):=fun h=>hn (.inr (.inr (.inl h)))
    have C:¬(c.toNat=95):=fun h=>hn (.inr (.inr (.inr (.inl h))))
    have B:¬(c.toNat=45):=fun h=>hn (.inr (.inr (.inr (.inr (.inl h)))))
    have v:¬(c.toNat=46):=fun h=>hn (.inr (.inr (.inr (.inr (.inr (.inl h))))))
    have y:¬(c.toNat=58):=fun h=>hn (.inr (.inr (.inr (.inr (.inr (.inr h))))))
    clear hn hy f j;have l:c.toNat<45\/c.toNat=47\/(59<=c.toNat/\c.toNat<=64)\/(91<=c.toNat/\c.toNat<=94)\/c.toNat=96\/122<c.toNat:=by omega
    have e4:((c.toNat:Int)==95)=false:=by simp;omega
    have e5:((c.toNat:Int)==45)=false:=by simp;omega
    have e6:((c.toNat:Int)==46)=false:=by simp;omega
    have e7:((c.toNat:Int)==58)=false:=by simp;omega
    clear A u z C B v y;rcases l with hn|hn|hn|hn|hn|hn
    all_goals
     go_wp2_with fail
     all_goals first
      | (go_ret;exact⟨by rw[a.out]<;>rfl,rfl⟩)
      | (exfalso;rename_i h;(try simp only[Bool.not_eq_false',qqv]at h);first|omega| (simp at h;omega))
  .have b:¬((i:Int)<(s.length:Int)):=by omega
   have t:Hid (s.all nameC=true):=hid (by have:=q.out;rwa[K0 (by omega)]at this);by_cases d:1<=s.length
   .have p:(1:Int)<=(s.length:Int):=by omega
    by_cases g:s.length<=64
    .have m:(s.length:Int)<=64:=by omega
     have a:Hid (nameB s=true):=hid ((k.out true).2 (by rw[t.out];simp[d,g])).symm;go_wp2;go_ret;exact⟨by rw[a.out]<;>rfl,rfl⟩
    .have m:¬((s.length:Int)<=64):=by omega
     have a:Hid (nameB s=false):=hid ((k.out false).2 (by simp[g])).symm;go_wp2;go_ret;exact⟨by rw[a.out]<;>rfl,rfl⟩
   .have p:¬((1:Int)<=(s.length:Int)):=by omega
    have a:Hid (nameB s=false):=hid ((k.out false).2 (by simp[d])).symm;go_wp2;go_ret;exact⟨by rw[a.out]<;>rfl,rfl⟩
theorem zry (kind:Int) (text:Q0) (ord:Bool) (keys items:List Int) (ka ia:Option Addr) (kc ic n B:Nat) (_hn:n<=1073741823) (htl:text.length<=268435455) (hkl:keys.length<=1073741823) (hil:items.length<=1073741823)
 (w:World) (hB:B<=w.heap.size) (hk:RowAt intI w B ka keys) (hi:RowAt intI w B ia items):
 Calls prog 51 #[.agg #[.int .i64 kind,.string ⟨text.toArray⟩,.bool ord,.slice ka keys.length kc,.slice ia items.length ic],.int .i64 n] w fun e w'=>e=.returned (.bool (rform sclX n ⟨kind,text,ord,keys,items⟩))/\Below w.heap.size w w':=by
 obtain⟨D,q⟩:=ex (w.alloc (.cells #[.int .i64 kind,.string ⟨text.toArray⟩,.bool ord,.slice ka keys.length kc,.slice ia items.length ic] 37))
 have F:Below w.heap.size w D:=by rw[<-q];exact(K2 _ _).alloc (Q1 _) _
 have O:Blk D w.heap.size 37 #[.int .i64 kind,.string ⟨text.toArray⟩,.bool ord,.slice ka keys.length kc,.slice ia items.length ic]:=by rw[<-q];exact Y3 _ _ _
 obtain⟨s0,s1,s2,s3,s4⟩:=cells5 O;have f:=hid F;have S:Hid (RowAt intI D B ka keys):=hid (hk.below (F.mono hB));have Q:Hid (RowAt intI D B ia items):=hid (hi.below (F.mono hB));have k:Hid ((items.all (inR n)=false\/keys.all (inR n)=false)->rform sclX n ⟨kind,text,ord,keys,items⟩=false):=hid (fun h=>by
  unfold rform;rw[if_pos];rcases h with h|h
  .show(items.all (inR n) && keys.all (inR n))=false;rw[h];rfl
  .show(items.all (inR n) && keys.all (inR n))=false;rw[h,Z0])
 have I:=zg4 text;clear F O hk hi hB;go_enter func51,ntmps51;go_upto_region 1 with fail;(try rw[q]);clear q;go_upto_region 2 with fail;go_loop [5] (fun x=>∃i:Nat,i<=items.length/\x=.int .i64 i/\Hid ((items.take i).all (inR n)=true)) (fun i=>items.length-(intOf i).toNat)
 case atStart=>exact⟨0,by omega,rfl,hid (by simp)⟩
 case round=>
  obtain⟨i,J,rfl,c⟩:=hrel;by_cases hlt:i<items.length
  .have l:(i:Int)<(items.length:Int):=by omega
   obtain⟨x,s⟩:=ex (items[i])
   obtain⟨H,rfl,j,M⟩:=ze9 Q.out hlt;rw[s]at M;have p:Hid ((items.take (i+1)).all (inR n)=(decide (0<=x) && decide (x<(n:Int)))):=hid (by rw[zb7 _ _ _ hlt,c.out,s];rfl);have o:Hid (inR n x=false->items.all (inR n)=false):=hid (fun h=>by
    rw[Q5];exact⟨x,by rw[<-s];exact K3 hlt,by rw[h];decide⟩)
   clear s j;by_cases h1:0<=x
   .have u:¬x<0:=by omega
    by_cases h2:x<(n:Int)
    .have t:¬(n:Int)<=x:=by omega
     have y:Hid ((items.take (i+1)).all (inR n)=true):=hid (by rw[p.out];simp[h1,h2]);clear c p o;go_wp2;go_round
     case rel=>exact⟨i+1,by omega,by go_num,y⟩
     case measure=>simp[intOf];omega
    .have t:(n:Int)<=x:=by omega
     have a:Hid (items.all (inR n)=false):=hid (o.out (by simp[inR,h2]));clear c p o;go_wp2;go_ret;exact⟨by rw[k.out (by exact .inl a.out)]<;>rfl,f.out⟩
   .have u:x<0:=by omega
    have a:Hid (items.all (inR n)=false):=hid (o.out (by simp[inR];omega));clear c p o;go_wp2;go_ret;exact⟨by rw[k.out (by exact .inl a.out)]<;>rfl,f.out⟩
  .have l:¬((i:Int)<(items.length:Int)):=by omega
   have C:Hid (items.all (inR n)=true):=hid (by have:=c.out;rwa[K0 (by omega)]at this);clear c;go_upto_region 7 with fail;go_loop [6] (fun x=>∃i:Nat,i<=keys.length/\x=.int .i64 i/\Hid ((keys.take i).all (inR n)=true)) (fun i=>keys.length-(intOf i).toNat)
   case atStart=>exact⟨0,by omega,rfl,hid (by simp)⟩
   case round=>
    obtain⟨i,J,rfl,c⟩:=hrel;by_cases hlt:i<keys.length
    .have l:(i:Int)<(keys.length:Int):=by omega
     obtain⟨x,s⟩:=ex (keys[i])
     obtain⟨H,rfl,j,M⟩:=ze9 S.out hlt;rw[s]at M;have p:Hid ((keys.take (i+1)).all (inR n)=(decide (0<=x) && decide (x<(n:Int)))):=hid (by rw[zb7 _ _ _ hlt,c.out,s];rfl);have o:Hid (inR n x=false->keys.all (inR n)=false):=hid (fun h=>by
      rw[Q5];exact⟨x,by rw[<-s];exact K3 hlt,by rw[h];decide⟩)
     clear s j;by_cases h1:0<=x
     .have u:¬x<0:=by omega
      by_cases h2:x<(n:Int)
      .have t:¬(n:Int)<=x:=by omega
       have y:Hid ((keys.take (i+1)).all (inR n)=true):=hid (by rw[p.out];simp[h1,h2]);clear c p o;go_wp2;go_round
       case rel=>exact⟨i+1,by omega,by go_num,y⟩
       case measure=>simp[intOf];omega
      .have t:(n:Int)<=x:=by omega
       have a:Hid (keys.all (inR n)=false):=hid (o.out (by simp[inR,h2]));clear c p o;go_wp2;go_ret;exact⟨by rw[k.out (by exact .inr a.out)]<;>rfl,f.out⟩
     .have u:x<0:=by omega
      have a:Hid (keys.all (inR n)=false):=hid (o.out (by simp[inR];omega));clear c p o;go_wp2;go_ret;exact⟨by rw[k.out (by exact .inr a.out)]<;>rfl,f.out⟩
    .have l:¬((i:Int)<(keys.length:Int)):=by omega
     have A:Hid (keys.all (inR n)=true):=hid (by have:=c.out;rwa[K0 (by omega)]at this);clear c;have d:Hid (rform sclX n ⟨kind,text,ord,keys,items⟩=if kind≠10/\(ord=true\/0<keys.length)then false else if kind=9 then text.isEmpty else if kind=10 then text.isEmpty && decide (keys.length=items.length)
      else if kind=11 then decide (items.length=1) && nameB text else decide (items.length=0) && sclX kind text):=hid (by
      unfold rform;rw[if_neg];show¬(items.all (inR n) && keys.all (inR n))=false;rw[C.out,A.out];decide)
     clear C A k S Q;by_cases h10:kind=10
     .subst h10;cases he:text.isEmpty with
      |false=>
       rw[he]at I;have a:Hid (rform sclX n ⟨10,text,ord,keys,items⟩=false):=hid (by rw[d.out];simp[he]);go_wp2;go_ret;exact⟨by rw[a.out]<;>rfl,f.out⟩
      |true=>
       rw[he]at I;by_cases hki:keys.length=items.length
       .have g:((keys.length:Int)==(items.length:Int))=true:=by simp[hki]
        have h1:(keys.length:Int)=(items.length:Int):=by omega
        have a:Hid (rform sclX n ⟨10,text,ord,keys,items⟩=true):=hid (by rw[d.out];simp[he,hki]);clear hki;have H1:=hid h1;clear h1;go_wp2;go_ret;exact⟨by rw[a.out]<;>rfl,f.out⟩
       .have h1:¬((keys.length:Int)=(items.length:Int)):=by omega
        have g:((keys.length:Int)==(items.length:Int))=false:=by simp;omega
        have a:Hid (rform sclX n ⟨10,text,ord,keys,items⟩=false):=hid (by rw[d.out];simp[he,hki]);go_wp2;go_ret;exact⟨by rw[a.out]<;>rfl,f.out⟩
     .have h10b:(kind==10)=false:=by simpa using h10
      have h10n:(kind != 10)=true:=by simpa using h10
      cases ord with
      |true=>
       have a:Hid (rform sclX n ⟨kind,text,true,keys,items⟩=false):=hid (by rw[d.out];simp[h10]);go_wp2;go_ret;exact⟨by rw[a.out]<;>rfl,f.out⟩
      |false=>
       by_cases hk0:keys.length=0
       .have N:¬(0<(keys.length:Int)):=by omega
        have z:¬0<keys.length:=by omega
        have G:decide (0<keys.length)=false:=qqx z;have m:Hid (rform sclX n ⟨kind,text,false,keys,items⟩=if kind=9 then text.isEmpty else if kind=11 then decide (items.length=1) && nameB text else decide (items.length=0) && sclX kind text):=hid (by
         rw[d.out];simp[h10,hk0])
        clear d;by_cases h9:kind=9
        .subst h9;have a:Hid (rform sclX n ⟨9,text,false,keys,items⟩=text.isEmpty):=hid (by rw[m.out];rfl);obtain⟨b,T⟩:=ex text.isEmpty
         rw[T]at I a;go_wp2;go_ret;exact⟨by rw[a.out]<;>rfl,f.out⟩
        .have h9b:(kind==9)=false:=by simpa using h9
         by_cases h11:kind=11
         .subst h11;by_cases h1:items.length=1
          .have g:((items.length:Int)==1)=true:=by simp[h1]
           have v:(items.length:Int)=1:=by omega
           have a:Hid (rform sclX n ⟨11,text,false,keys,items⟩=nameB text):=hid (by rw[m.out];simp[h1]);clear h1;go_wp2_with fail;refine(zrx text (by omega) _).mono ?_;rintro e R ⟨rfl,L⟩;subst L;go_wp2;go_ret;exact⟨by rw[a.out]<;>rfl,f.out⟩
          .have g:((items.length:Int)==1)=false:=by simp;omega
           have v:¬((items.length:Int)=1):=by omega
           have a:Hid (rform sclX n ⟨11,text,false,keys,items⟩=false):=hid (by rw[m.out];simp[h1]);go_wp2;go_ret;exact⟨by rw[a.out]<;>rfl,f.out⟩
         .have h11b:(kind==11)=false:=by simpa using h11
          by_cases h1:items.length=0
          .have g:((items.length:Int)==0)=true:=by simp[h1]
           have v:(items.length:Int)=0:=by omega
           have a:Hid (rform sclX n ⟨kind,text,false,keys,items⟩=sclX kind text):=hid (by rw[m.out];simp[h9,h11,h1]);clear h1;have c:=hid (zx1 kind text htl D);obtain⟨r,P⟩:=ex (sclX kind text)
           rw[P]at c a;clear P;go_wp2_with fail;refine c.out.mono ?_;rintro e R ⟨rfl,E⟩;have K:Hid (Below w.heap.size w R):=hid (f.out.trans (E.mono f.out.size));clear E;go_wp2;go_ret;exact⟨by rw[a.out]<;>rfl,K.out⟩
          .have g:((items.length:Int)==0)=false:=by rw[qqq];omega
           have v:¬((items.length:Int)=0):=by omega
           have a:Hid (rform sclX n ⟨kind,text,false,keys,items⟩=false):=hid (by rw[m.out];simp[h9,h11,h1]);go_wp2;go_ret;exact⟨by rw[a.out]<;>rfl,f.out⟩
       .have N:0<(keys.length:Int):=by omega
        have z:0<keys.length:=by omega
        have G:decide (0<keys.length)=true:=qqk z;have a:Hid (rform sclX n ⟨kind,text,false,keys,items⟩=false):=hid (by rw[d.out,if_pos ⟨h10,.inr (by omega)⟩]);go_wp2;go_ret;exact⟨by rw[a.out]<;>rfl,f.out⟩
structure RB (w wr:World) (gc:Array Value) (m:List Bool) (v:Value) (L:List Nat):Prop where
 below:Below w.heap.size w wr
 box:Blk wr w.heap.size 24 gc
 met:Blk wr (w.heap.size+1) 4 (bcells m)
 own:OwnRow intL wr (w.heap.size+2) 3 v L
 hd:w.heap.size+2<=wr.heap.size
section
variable {w wr w2:World} {gc:Array Value} {m:List Bool} {v v':Value} {L L':List Nat}
theorem RB.later (h:RB w wr gc m v L) (hb:Below wr.heap.size wr w2):RB w w2 gc m v L:=
 ⟨h.below.trans (hb.mono (by have:=h.hd;omega)),h.box.below hb h.box.lt,h.met.below hb h.met.lt,h.own.later hb,Q2 h.hd hb.size⟩
theorem RB.alloc (h:RB w wr gc m v L) (o:Obj):RB w (wr.alloc o) gc m v L:=h.later ((K2 _ _).alloc (Q1 _) _)
theorem RB.mark (h:RB w wr gc m v L) (i:Nat) (b:Bool):RB w (wr.setCell ⟨w.heap.size+1,i,none⟩ (.bool b)) gc (m.set i b) v L:=
 ⟨h.below.setCell (by simp) _,h.box.far (by simp) _,by rw[<-zb4];exact h.met.set_ i _,h.own.setCell (fun e=>absurd (h.own.lt _ e).1 (by simp)) _,by have:=h.hd;simp[U0];omega⟩
theorem RB.grown (h:RB w wr gc m v L) (ho:OwnRow intL w2 (w.heap.size+2) 3 v' L') (hg:wr.grownBy w2 v.ownBlock):RB w w2 gc m v' L':=
 ⟨h.below.trans ((h.own.grown_below hg h.hd).mono (by omega)),zbk h.box h.own hg (by omega),zbk h.met h.own hg (by omega),ho,Q2 h.hd (h.own.grown_below hg h.hd).size⟩
theorem zea {w:World} {base:Nat} {E:TypeId} {A:Option Addr} {c n:Nat} {l:List Nat} (h:OwnRow intL w base E (.slice A n c) l):RowAt intL w w.heap.size A l/\n=l.length:=by
 obtain⟨A',c',a,b⟩:=h.form;injection a with e1 e2 e3
 subst e1;exact⟨b,e2⟩
end
theorem zuw {w:World} {base:Nat} {E:TypeId} {v u u':Value} {l:List Nat} (h:v.ownBlock=none\/v.ownBlock≠u.ownBlock) (hN:OwnRow intL w base E v l) (hat:u'.ownBlock=u.ownBlock\/u'.ownBlock=some w.heap.size):v.ownBlock=none\/v.ownBlock≠u'.ownBlock:=by
 rcases hat with e|e
 .rw[e];exact h
 .rw[e];cases e2:v.ownBlock with
  |none=>exact .inl rfl
  |some k=>
   right;intro a;injection a with a
   have:=(hN.lt k e2).2;omega
theorem zrz {w w2:World} {base:Nat} {E:TypeId} {v u:Value} {l m:List Nat} (hN:OwnRow intL w2 w.heap.size E v l) (hL:OwnRow intL w base E u m):v.ownBlock=none\/v.ownBlock≠u.ownBlock:=by
 cases e2:v.ownBlock with
 |none=>exact .inl rfl
 |some k=>
  right;intro a;have:=(hN.lt k e2).1;have:=(hL.lt k a.symm).2;omega
theorem zfw (w:World):OwnRow intL (w.alloc (.cells #[] 3)).drew w.heap.size 3 (.slice (some ⟨w.heap.size,0,none⟩) ([]:List Nat).length 0) []:=by
 refine⟨by simp[Lay.all],.inr ⟨w.heap.size,0,#[],rfl,Q1 _,heap_alloc_new w _,Q1 _,by simp[maxLen],by simp,by simp[Lay.all]⟩⟩
theorem zc1 (A:Option Addr) (c a:Nat) (root:Int) (vs:List NV) (ns:List Z3) (hr:Refs ns) (hl:ns.length<=1000) (hks:∀n∈ns,n.keys.length<=1000/\n.items.length<=1000) (ha:a<ns.length)
 (w:World) (h:GAt w w.heap.size A vs ns):
 Calls prog 39 #[.agg #[.slice A ns.length c,.int .i64 root],.int .i64 a] w fun e w'=>∃ob,e=.returned (.slice (some ⟨ob,0,none⟩) ns.length ns.length)/\w.heap.size<=ob/\Below w.heap.size w w'/\Blk w' ob 4 (bcells (marks ns a)):=by
 have H:=hid h;have hmk:=fun W=>zbq ns.length (by omega) W
 have haI:(a:Int)<(ns.length:Int):=by omega
 clear h;go_enter func39,ntmps39;go_upto_region 2 with fail;obtain⟨w2,s⟩:=ex ((w.alloc (.cells #[.slice A ns.length c,.int .i64 root] 24)).alloc (.cells (bcells (K1 ns.length false)) 4))
 have l2:Below w.heap.size w w2:=by rw[<-s];exact((K2 _ _).alloc (Q1 _) _).alloc (by simp) _
 have bg:Blk w2 w.heap.size 24 #[.slice A ns.length c,.int .i64 root]:=by rw[<-s];exact(Y3 _ _ _).alloc _
 have bo:Blk w2 (w.heap.size+1) 4 (bcells (K1 ns.length false)):=by
  rw[<-s];have:=Y3 (w.alloc (.cells #[.slice A ns.length c,.int .i64 root] 24)) 4 (bcells (K1 ns.length false));rw[Q6]at this;exact this
 have ak:w2.heap.size=w.heap.size+2:=by rw[<-s];simp
 have z0:w2.cell? ⟨w.heap.size+1,a,none⟩=some (.bool false):=by
  rw[bo.cell,zae (by simpa using ha)];simp[K9,ha]
 have zf:∀i,w2.frozen? ⟨w.heap.size+1,i,none⟩=false:=bo.frozen;rw[s];clear s;go_upto_region 3 with fail;obtain⟨V,r⟩:=ex (w2.setCell ⟨w.heap.size+1,a,none⟩ (.bool true))
 have b3:Blk V (w.heap.size+1) 4 (bcells ((K1 ns.length false).set a true)):=by rw[<-r,<-zb4];exact bo.set_ a _
 have Z:Blk V w.heap.size 24 #[.slice A ns.length c,.int .i64 root]:=by rw[<-r];exact bg.far (by simp) _
 have l3:Below w.heap.size w V:=by rw[<-r];exact l2.setCell (by simp) _
 have aD:V.heap.size=w.heap.size+2:=by rw[<-r];simpa[U0]using ak
 rw[r];clear r l2 bg bo z0 zf ak;go_upto_region 4 with fail;obtain⟨gc,X⟩:∃gc:Array Value,#[.slice A ns.length c,.int .i64 root]=gc:=⟨_,rfl⟩
 have aR:Hid (gc[0]? =some (.slice A ns.length c)):=hid (by rw[<-X];rfl);rw[X]at Z;have HB:Hid (RB w (V.alloc (.cells #[.int .i64 a] 3)) gc ((K1 ns.length false).set a true) (.slice (some ⟨V.heap.size,0,none⟩) 1 1) [a]):=hid
  ⟨l3.alloc (by omega) _,Z.alloc _,b3.alloc _,OwnRow.lit1 (by omega) a _ rfl,by simp;omega⟩
 have aq:Hid (Bfs (Y6 ns) ns.length a ((K1 ns.length false).set a true) [a] 0 []):=hid (Bfs.start ha);obtain⟨m0,aa⟩:=ex ((K1 ns.length false).set a true)
 obtain⟨w4,ab⟩:=ex (V.alloc (.cells #[.int .i64 a] 3))
 obtain⟨lb,ac⟩:=ex (w.heap.size+2)
 rw[aa,ab,aD,ac]at HB;rw[aa]at aq;(try rw[ab]);(try rw[ac]);clear X l3 Z b3 aD aa ab ac;go_upto_region 5 with fail;go_loopw [6,7] (fun s6 s7 wr=>∃(i:Nat) (m:List Bool) (L:List Nat) (A1:Option Addr) (c1:Nat),i<=L.length/\s7=.int .i64 i/\s6=.slice A1 L.length c1/\Hid (RB w wr gc m (.slice A1 L.length c1) L/\Bfs (Y6 ns) ns.length a m L i [])) (fun _ s7 _=>ns.length-(intOf s7).toNat)
 case atStart=>exact⟨0,m0,[a],some ⟨lb,0,none⟩,1,by simp,rfl,rfl,hid ⟨HB.out,aq.out⟩⟩
 case round=>
  obtain⟨i,m,L,A1,c1,hi,rfl,rfl,t⟩:=hrel;obtain⟨P,aM⟩:∃P,P=wr:=⟨_,rfl⟩
  subst aM;have HLN:Hid (L.length<=ns.length):=hid t.out.2.len_le;by_cases hil:i<L.length
  .have ax:(i:Int)<(L.length:Int):=by omega
   obtain⟨u,hu⟩:=ex (L[i])
   have U:u<ns.length:=by rw[<-hu];exact t.out.2.lt _ (K3 hil)
   obtain⟨C,rfl,_,y0⟩:=zaf (zea t.out.1.own).1 hil;rw[hu]at y0;have HU:Hid (L[i]? =some u):=hid (by rw[<-hu];exact K7 hil);obtain⟨J,k,i2,rfl,z⟩:=(H.out.below t.out.1.below).node U;obtain⟨ka,kn,kc⟩:=k;obtain⟨K,aV,ic⟩:=i2;have ah:ns[u]∈ns:=K3 U;obtain⟨aU,av⟩:=hks _ ah;have D:Hid (Y6 ns u=ns[u].keys++ns[u].items/\∀x∈ns[u].keys++ns[u].items,x<ns.length):=hid ⟨zdb U,hr _ ah⟩;obtain⟨n,hn⟩:=ex (ns[u])
   rw[hn]at z D aU av;obtain rfl:kn=n.keys.length:=z.kn;obtain rfl:aV=n.items.length:=z.inn;have x0:=z.c0;have x1:=z.c1;have x2:=z.c2;have x3:=z.c3;have x4:=z.c4;have g0:P.cell? ⟨w.heap.size,0,none⟩=some (.slice (some J) ns.length c):=by rw[t.out.1.box.cell];exact aR.out
   have hunI:(u:Int)<(ns.length:Int):=by omega
   have aE:Hid (RowAt intL P w.heap.size ka n.keys/\RowAt intL P w.heap.size K n.items):=hid ⟨z.keys,z.items⟩;clear z ah hn hu;go_upto_region 7 with fail;go_cut [8] (fun s8 wx=>∃g8,s8=.pointer (some ⟨g8,0,none⟩)/\Hid (Blk wx g8 37 #[.int .i64 n.kind,.string ⟨n.text.toArray⟩,.bool n.ord,.slice ka n.keys.length kc,.slice K n.items.length ic]/\Below P.heap.size P wx))
   case first=>
    go_region_held3 (fun w'=>w'.cell? ⟨w.heap.size,0,none⟩=some (.slice (some J) ns.length c)/\w'.cell? (C.add i)=some (.int .i64 u)/\
     w'.cell? (J.add (u*5))=some (.int .i64 n.kind)/\w'.cell? {block:=(J.add (u*5)).block,off:=(J.add (u*5)).off+1}=some (.string ⟨n.text.toArray⟩)/\w'.cell? {block:=(J.add (u*5)).block,off:=(J.add (u*5)).off+2}=some (.bool n.ord)/\
     w'.cell? {block:=(J.add (u*5)).block,off:=(J.add (u*5)).off+3}=some (.slice ka n.keys.length kc)/\w'.cell? {block:=(J.add (u*5)).block,off:=(J.add (u*5)).off+4}=some (.slice K n.items.length ic))
      (first|go_keep| (simp[go_sem])) (fail)
    all_goals
     go_wp2;go_meet
    exact⟨P.heap.size,rfl,hid ⟨Y3 _ _ _,((K2 _ _).alloc (Q1 _) _).drew⟩⟩
   case rest=>
    obtain⟨g8,rfl,f⟩:=hcut;have R:Hid (RB w wc gc m (.slice (some C) L.length c1) L/\Bfs (Y6 ns) ns.length a m L i []):=hid ⟨t.out.1.later f.out.2,t.out.2⟩;have s3:wc.cell? ⟨g8,3,none⟩=some (.slice ka n.keys.length kc):=f.out.1.cell 3;have s4:wc.cell? ⟨g8,4,none⟩=some (.slice K n.items.length ic):=f.out.1.cell 4;clear x0 x1 x2 x3 x4 g0 y0;go_upto_region 8 with fail;obtain⟨d,aT⟩:∃d,d=wc:=⟨_,rfl⟩
    subst aT;go_cut [9] (fun s9 wx=>∃A2 c2,s9=.slice A2 (n.keys.length+n.items.length) c2/\Hid (OwnRow intL wx d.heap.size 3 (.slice A2 (n.keys.length+n.items.length) c2) (n.keys++n.items)/\Below d.heap.size d wx))
    case first=>
     have s3a:(d.alloc (.cells #[] 3)).cell? ⟨g8,3,none⟩=some (.slice ka n.keys.length kc):=(f.out.1.alloc _).cell 3;have s4a:(d.alloc (.cells #[] 3)).cell? ⟨g8,4,none⟩=some (.slice K n.items.length ic):=(f.out.1.alloc _).cell 4;have F:OwnRow intL (d.alloc (.cells #[] 3)).drew d.heap.size 3 (.slice (some ⟨d.heap.size,0,none⟩) ([]:List Nat).length 0) []:=zfw d;have ae:Below w.heap.size P (d.alloc (.cells #[] 3)).drew:=by
      have:=t.out.1.below.size;exact below_drewN ((f.out.2.mono this).alloc (Q2 this f.out.2.size) _) 1
     have ay:RowAt intL (d.alloc (.cells #[] 3)).drew w.heap.size ka n.keys:=aE.out.1.below ae;have S:RowAt intL (d.alloc (.cells #[] 3)).drew w.heap.size K n.items:=aE.out.2.below ae;have ag:Hid (d.heap.size<=(d.alloc (.cells #[] 3)).drew.heap.size/\w.heap.size<=d.heap.size/\g8<d.heap.size):=hid ⟨by simp,Q2 t.out.1.below.size f.out.2.size,f.out.1.lt⟩;have aH:Hid (Blk (d.alloc (.cells #[] 3)).drew g8 37 #[.int .i64 n.kind,.string ⟨n.text.toArray⟩,.bool n.ord,.slice ka n.keys.length kc,.slice K n.items.length ic]/\RowAt intL (d.alloc (.cells #[] 3)).drew w.heap.size K n.items):=hid ⟨f.out.1.alloc _,S⟩;have aW:([]:List Nat).length+n.keys.length<=1073741824:=by simp;omega
     have aS:n.keys.length+n.items.length<=1073741824:=by omega
     have Y:=ag.out.1;clear ae S;go_region_law (first
      | (refine zai _ rfl (.tmp 34) (.tmp 36) 35 3 8 rfl intT d.heap.size (.slice (some ⟨d.heap.size,0,none⟩) ([]:List Nat).length 0) [] rfl F _ _ kc n.keys rfl ay aW Y ?_;intro v1 w1 l an aB;rw[List.nil_append]at l;obtain⟨A8,c8,aN,_⟩:=l.form;subst aN;have G:=F.grown_below an Y;have s41:w1.cell? ⟨g8,4,none⟩=some (.slice K n.items.length ic):=(aH.out.1.below G ag.out.2.2).cell 4;have ap:RowAt intL w1 w.heap.size K n.items:=aH.out.2.below (G.mono ag.out.2.1);have aG:d.heap.size<=w1.heap.size:=Q2 Y G.size;have aP:=hid G;clear an aB G)
      | (refine zai _ rfl (.tmp 37) (.tmp 39) 35 3 8 rfl intT d.heap.size (.slice A8 n.keys.length c8) n.keys rfl l _ _ ic n.items rfl ap aS aG ?_;intro v2 w2 p aF aC;obtain⟨A9,c9,ao,_⟩:=p.form;rw[K8]at ao;subst ao;have aK:Hid (OwnRow intL w2 d.heap.size 3 (.slice A9 (n.keys.length+n.items.length) c9) (n.keys++n.items)/\Below d.heap.size d w2):=hid ⟨p,(below_drewN ((K2 _ _).alloc (Q1 _) _) 1).trans (aP.out.trans (l.grown_below aF aG))⟩;clear p aF aC))
     all_goals
      go_wp2;go_meet;exact⟨A9,c9,rfl,aK⟩
    case rest=>
     obtain⟨A2,c2,rfl,HN⟩:=hcut;have aL:Hid (RB w wc gc m (.slice (some C) L.length c1) L):=hid (R.out.1.later HN.out.2);have ai:Hid ((Value.slice A2 (n.keys.length+n.items.length) c2).ownBlock=none\/(Value.slice A2 (n.keys.length+n.items.length) c2).ownBlock≠(Value.slice (some C) L.length c1).ownBlock):=hid (zrz HN.out.1 R.out.1.own);have am:Hid (OwnRow intL wc (w.heap.size+2) 3 (.slice A2 (n.keys.length+n.items.length) c2) (n.keys++n.items)):=hid (HN.out.1.lower R.out.1.hd);obtain⟨I,Q⟩:=ex (n.keys++n.items)
     obtain⟨q,O⟩:=ex (n.keys.length+n.items.length)
     have hnn:I.length=q:=by rw[<-Q,<-O];simp
     have hnb:q<=2000:=by omega
     rw[O,Q]at am;rw[O]at ai;rw[Q]at D;(try rw[O]);clear HN Q s3 s4;go_upto_region 10 with fail;go_loopw [6,10] (fun s6 s10 wr=>∃(k:Nat) (m:List Bool) (L:List Nat) (A1:Option Addr) (c1:Nat),k<=q/\s10=.int .i64 k/\s6=.slice A1 L.length c1/\Hid (RB w wr gc m (.slice A1 L.length c1) L/\Bfs (Y6 ns) ns.length a m L i (I.take k)/\L[i]? =some u/\OwnRow intL wr (w.heap.size+2) 3 (.slice A2 q c2) I/\((Value.slice A2 q c2).ownBlock=none\/(Value.slice A2 q c2).ownBlock≠(Value.slice A1 L.length c1).ownBlock))) (fun _ s10 _=>q-(intOf s10).toNat)
     case atStart=>exact⟨0,m,L,some C,c1,by omega,rfl,rfl,hid ⟨aL.out,by simpa using R.out.2,HU.out,am.out,ai.out⟩⟩
     case round=>
      obtain⟨k,M,o,A3,c3,hk,rfl,rfl,g⟩:=hrel;by_cases hlk:k<q
      .have ar:(k:Int)<(q:Int):=by omega
       have B:k<I.length:=by omega
       obtain⟨x,hx⟩:=ex (I[k])
       obtain⟨E,rfl,hb3,y0⟩:=zaf (zea g.out.2.2.2.1).1 B;rw[hx]at y0;have aJ:x<ns.length:=D.out.2 x (by rw[<-hx];exact K3 B);have hxI:(x:Int)<(ns.length:Int):=by omega
       have aQ:Hid (x∈Y6 ns u):=hid (by rw[D.out.1,<-hx];exact K3 B);have aI:Hid (I.take (k+1)=I.take k++[x]):=hid (by rw[K6 B,hx]);have aX:=g.out.2.1.ml;obtain⟨b,hb⟩:=ex (M.getD x false)
       have z0:wr.cell? ⟨w.heap.size+1,x,none⟩=some (.bool b):=by rw[g.out.1.met.cell,zae (by omega),hb]
       have zf:∀j,wr.frozen? ⟨w.heap.size+1,j,none⟩=false:=g.out.1.met.frozen;have hkb:k<=2000:=by omega
       clear aX;cases b with
       |true=>
        have au:Hid (Bfs (Y6 ns) ns.length a M o i (I.take (k+1))):=hid (by rw[aI.out];exact g.out.2.1.old hb);clear hb;go_wp2;go_roundw
        case rel=>exact⟨k+1,M,o,A3,c3,by omega,by go_num,rfl,hid ⟨g.out.1,au.out,g.out.2.2⟩⟩
        case measure=>simp[intOf];omega
       |false=>
        have aA:Hid (Bfs (Y6 ns) ns.length a (M.set x true) (o++[x]) i (I.take (k+1))):=hid (by rw[aI.out];exact g.out.2.1.new g.out.2.2.1 aQ.out aJ hb);obtain⟨wm,N⟩:=ex (wr.setCell ⟨w.heap.size+1,x,none⟩ (.bool true))
        have HM:Hid (RB w wm gc (M.set x true) (.slice A3 o.length c3) o/\OwnRow intL wm (w.heap.size+2) 3 (.slice (some E) q c2) I):=hid ⟨by rw[<-N];exact g.out.1.mark x true,by rw[<-N];exact g.out.2.2.2.1.setCell (fun e=>absurd (g.out.2.2.2.1.lt _ e).1 (by simp)) _⟩;have y1:wm.cell? (E.add k)=some (.int .i64 x):=by
         obtain⟨ad4,e4,_,y4⟩:=zaf (zea HM.out.2).1 B;injection e4 with e4
         subst e4;rw[hx]at y4;exact y4
        have af:Hid (o.length+1<=1001/\w.heap.size+2<=wm.heap.size):=hid ⟨by have:=g.out.2.1.len_le;omega,HM.out.1.hd⟩;clear hb hx;go_upto_region 14 with fail;(try rw[N]);clear N z0 zf y0;go_wp2_with (at_builtin;go_must (refine zab _ rfl (.tmp 61) (.tmp 66) 35 3 8 rfl intT (w.heap.size+2) (.slice A3 o.length c3) o rfl (HM.out.1.own.alloc _) _ _ 1 [x] rfl (RowAt.lit1 _ _ rfl _ ?_) ?_ ?_ ?_))
        any_goals (first|rfl| (have:=af.out;omega)| (have:=af.out;simp;omega)| (rw[Q6];have:=af.out;omega))
        intro v' w5 y hg aw;have T:Hid (RB w w5 gc (M.set x true) v' (o++[x])/\OwnRow intL w5 (w.heap.size+2) 3 (.slice (some E) q c2) I/\((Value.slice (some E) q c2).ownBlock=none\/(Value.slice (some E) q c2).ownBlock≠v'.ownBlock)):=hid ⟨(HM.out.1.alloc _).grown y hg,World.ownsRow.kept (HM.out.2.alloc _) hg g.out.2.2.2.2,zuw g.out.2.2.2.2 (HM.out.2.alloc (.cells #[.int .i64 x] 3)) (by rw[Q6];exact aw)⟩;have az:Hid ((o++[x])[i]? =some u):=hid (by
         have h1:=g.out.2.2.1;rw[U1]
         .exact h1
         .rcases Z5 i o.length with h2|h2
          .exact h2
          .rw[Y5 h2]at h1;cases h1)
        obtain⟨A5,c5,al,_⟩:=y.form;obtain⟨L5,aj⟩:=ex (o++[x])
        rw[aj]at aA T az al;subst al;clear y hg aw aj;go_wp2;go_roundw
        case rel=>exact⟨k+1,M.set x true,L5,A5,c5,by omega,by go_num,rfl,hid ⟨T.out.1,aA.out,az.out,T.out.2⟩⟩
        case measure=>simp[intOf];omega
      .have ar:¬(k:Int)<(q:Int):=by omega
       have HE:Hid (RB w wr gc M (.slice A3 o.length c3) o/\Bfs (Y6 ns) ns.length a M o (i+1) []):=hid ⟨g.out.1,g.out.2.1.next g.out.2.2.1 (by rw[D.out.1,K0 (by omega)])⟩;have aO:i+1<=o.length:=by
        have h1:=g.out.2.2.1;rcases Z5 i o.length with h2|h2
        .exact h2
        .rw[Y5 h2]at h1;cases h1
       have hln:=g.out.2.1.len_le;have hib:i<=2000:=by omega
       go_wp2;go_roundw
       case rel=>exact⟨i+1,M,o,A3,c3,aO,by go_num,rfl,HE⟩
       case measure=>simp[intOf];omega
  .have ax:¬(i:Int)<(L.length:Int):=by omega
   have HE:Hid (m=marks ns a):=hid (t.out.2.marks hr ha (by omega));go_wp2;go_ret;exact⟨w.heap.size+1,rfl,by omega,t.out.1.below,by rw[<-HE.out];exact t.out.1.met⟩
theorem zgt {w:World} {B:Nat} {A:Option Addr} {vs:List NV} {ns:List Z3} (h:GAt w B A vs ns) {j:Nat} {n:Z3} (hj:j<ns.length) (hn:ns[j]=n):∃ad ka kc ia ic,A=some ad/\w.cell? {block:=(ad.add (j*5)).block,off:=(ad.add (j*5)).off+3}=some (.slice ka n.keys.length kc)/\
 w.cell? {block:=(ad.add (j*5)).block,off:=(ad.add (j*5)).off+4}=some (.slice ia n.items.length ic)/\RowAt intL w B ka n.keys/\RowAt intL w B ia n.items:=by
 subst hn;obtain⟨ad,⟨ka,b,kc⟩,⟨ia,a,ic⟩,e,h⟩:=h.node hj;obtain rfl:b=ns[j].keys.length:=h.kn;obtain rfl:a=ns[j].items.length:=h.inn;exact⟨ad,ka,kc,ia,ic,e,h.c3,h.c4,h.keys,h.items⟩
structure CB (w wr:World) (gc:Array Value) (m:List Nat):Prop where
 below:Below w.heap.size w wr
 box:Blk wr w.heap.size 24 gc
 out:Blk wr (w.heap.size+1) 3 (icells m)
theorem CB.step {w wr:World} {gc:Array Value} {m:List Nat} (h:CB w wr gc m) (x:Nat):CB w (wr.setCell ⟨w.heap.size+1,x,none⟩ (.int .i64 ((m.getD x 0:Nat)+1))) gc (cstep m x):=
 ⟨h.below.setCell (by simp) _,h.box.far (by simp) _,by
  unfold cstep;rw[<-zam];exact h.out.set_ x _⟩
theorem zfx (A:Option Addr) (c root:Nat) (vs:List NV) (ns:List Z3) (hr:Refs ns) (hl:ns.length<=1000) (hks:∀n∈ns,n.keys.length<=1000/\n.items.length<=1000) (ha:root<ns.length)
 (w:World) (h:GAt w w.heap.size A vs ns):
 Calls prog 40 #[.agg #[.slice A ns.length c,.int .i64 root]] w fun e w'=>∃ob,e=.returned (.slice (some ⟨ob,0,none⟩) ns.length ns.length)/\w.heap.size<=ob/\Below w.heap.size w w'/\Blk w' ob 3 (icells (counts ns root)):=by
 have H:=hid h;have ac:=fun W=>za7 ns.length (by omega) W
 have haI:(root:Int)<(ns.length:Int):=by omega
 have af:Hid (∀j,(Q4 (ns.take j)).length<=2000*j):=hid (fun j=>by
  induction j with
  |zero=>simp[Q4]
  |succ j ih=>
   by_cases hj:j<ns.length
   .rw[zdl ns j hj];have:=hks _ (K3 hj);simp only[K8];omega
   .rw[K0 (by omega)];rw[K0 (by omega)]at ih;omega)
 clear h;go_enter func40,ntmps40;go_upto_region 2 with fail;obtain⟨M,p⟩:=ex ((w.alloc (.cells #[.slice A ns.length c,.int .i64 root] 24)).alloc (.cells (icells (K1 ns.length 0)) 3))
 obtain⟨g,z⟩:∃g:Array Value,#[.slice A ns.length c,.int .i64 root]=g:=⟨_,rfl⟩
 have s:Hid (g[0]? =some (.slice A ns.length c)/\g[1]? =some (.int .i64 root)):=hid (by rw[<-z];exact⟨rfl,rfl⟩);have S:CB w M g (K1 ns.length 0):=by
  refine⟨by rw[<-p];exact((K2 _ _).alloc (Q1 _) _).alloc (by simp) _,by rw[<-p,<-z];exact(Y3 _ _ _).alloc _,?_⟩;rw[<-p];have:=Y3 (w.alloc (.cells #[.slice A ns.length c,.int .i64 root] 24)) 3 (icells (K1 ns.length 0));rw[Q6]at this;exact this
 have g1:M.cell? ⟨w.heap.size,1,none⟩=some (.int .i64 root):=by rw[S.box.cell];exact s.out.2
 have e0:(K1 ns.length 0).getD root 0=0:=by simp[K9,ha]
 have z0:M.cell? ⟨w.heap.size+1,root,none⟩=some (.int .i64 0):=by
  rw[S.out.cell,zaa (by simpa using ha),e0];rfl
 have zf:∀i,M.frozen? ⟨w.heap.size+1,i,none⟩=false:=S.out.frozen;have m:=S.step root;rw[e0]at m;obtain⟨f,I⟩:=ex (cstep (K1 ns.length 0) root)
 have o:Hid (f.length=ns.length/\(∀x,f.getD x 0<=1)/\counts ns root=(Q4 ns).foldl cstep f):=hid (by
  rw[<-I];refine⟨by rw[zb5];simp,fun x=>?_,rfl⟩;have:=zeq (K1 ns.length 0) root x;have e:(K1 ns.length 0).getD x 0=0:=by simp[K9,U2];split<;>rfl
  omega)
 rw[I]at m;rw[p];clear p z S;go_upto_region 3 with fail;obtain⟨w3,B⟩:=ex (M.setCell ⟨w.heap.size+1,root,none⟩ (.int .i64 1))
 have m:Hid (CB w w3 g f):=hid (by rw[<-B];exact m);rw[B];clear B I g1 z0 zf e0 ac;go_upto_region 4 with fail;go_loopw [4] (fun s4 wr=>∃j:Nat,j<=ns.length/\s4=.int .i64 j/\Hid (CB w wr g ((Q4 (ns.take j)).foldl cstep f))) (fun s4 _=>ns.length-(intOf s4).toNat)
 case atStart=>exact⟨0,by omega,rfl,hid (by simpa[Q4]using m.out)⟩
 case round=>
  obtain⟨j,hj,rfl,O⟩:=hrel;have Y:wr.cell? ⟨w.heap.size,0,none⟩=some (.slice A ns.length c):=by rw[O.out.box.cell];exact s.out.1
  by_cases hlt:j<ns.length
  .have P:(j:Int)<(ns.length:Int):=by omega
   have t:ns[j]∈ns:=K3 hlt;obtain⟨n,L⟩:=ex (ns[j])
   have N:Hid (∀x∈n.keys++n.items,x<ns.length):=hid (by rw[<-L];exact hr _ t);have hkl:n.keys.length<=1000:=by rw[<-L];exact(hks _ t).1
   have hil:n.items.length<=1000:=by rw[<-L];exact(hks _ t).2
   obtain⟨R,X⟩:=ex (Q4 (ns.take j))
   have ab:Hid (Q4 (ns.take (j+1))=R++(n.keys++n.items)):=hid (by rw[zdl ns j hlt,X,L]);have Q:Hid (R.length<=2000000):=hid (by have:=af.out j;rw[X]at this;omega);have y:Hid (∀W,CB w W g ((Q4 (ns.take j)).foldl cstep f)\/Below w.heap.size w W->∃ad ka kc ia ic,A=some ad/\W.cell? {block:=(ad.add (j*5)).block,off:=(ad.add (j*5)).off+3}=some (.slice ka n.keys.length kc)/\
    W.cell? {block:=(ad.add (j*5)).block,off:=(ad.add (j*5)).off+4}=some (.slice ia n.items.length ic)/\RowAt intL W w.heap.size ka n.keys/\RowAt intL W w.heap.size ia n.items):=hid (fun W hW=>zgt (H.out.below (hW.elim (fun x=>x.below) id)) hlt L)
   rw[X]at O y;obtain⟨ad,ka,kc,ia,ic,rfl,T,V,_,_⟩:=y.out wr (.inl O.out);clear t X L;go_upto_region 7 with fail;clear Y T V;go_loopw [5] (fun s5 wr=>∃k:Nat,k<=n.keys.length/\s5=.int .i64 k/\Hid (CB w wr g ((R++n.keys.take k).foldl cstep f))) (fun s5 _=>n.keys.length-(intOf s5).toNat)
   case atStart=>exact⟨0,by omega,rfl,hid (by rw[X9,X7];exact O.out)⟩
   case round=>
    obtain⟨k,hk,rfl,u⟩:=hrel;have Y:wr.cell? ⟨w.heap.size,0,none⟩=some (.slice (some ad) ns.length c):=by rw[u.out.box.cell];exact s.out.1
    obtain⟨ai,ka,kc,ia,ic,F,T,V,K,J⟩:=y.out wr (.inr u.out.below);injection F with F
    subst F;by_cases hlk:k<n.keys.length
    .have q:(k:Int)<(n.keys.length:Int):=by omega
     obtain⟨x,r⟩:=ex (n.keys[k])
     obtain⟨Z,rfl,_,y0⟩:=zaf K hlk;rw[r]at y0;have aa:x<ns.length:=N.out x (by simp[<-r]);have ae:(x:Int)<(ns.length:Int):=by omega
     obtain⟨l,a⟩:=ex ((R++n.keys.take k).foldl cstep f)
     have D:l.length=ns.length:=by rw[<-a,zbv,o.out.1]
     have E:l.getD x 0<=3000000:=by
      rw[<-a];have h1:=zdk (R++n.keys.take k) f x;have h2:=o.out.2.1 x;have h3:=Q.out;simp only[K8,X5]at h1;omega
     have d:=u.out;rw[a]at d;have b:=d.step x;obtain⟨v,C⟩:=ex (l.getD x 0)
     have z0:wr.cell? ⟨w.heap.size+1,x,none⟩=some (.int .i64 (v:Int)):=by rw[d.out.cell,zaa (by omega),C]
     have zf:∀i,wr.frozen? ⟨w.heap.size+1,i,none⟩=false:=d.out.frozen;rw[C]at E b;have G:Hid (CB w (wr.setCell ⟨w.heap.size+1,x,none⟩ (.int .i64 ((v:Int)+1))) g ((R++n.keys.take (k+1)).foldl cstep f)):=hid (by
      rw[zaj _ _ hlk,<-Y1,X2,a,r];exact b)
     have ah:k<=1000:=by omega
     clear d b a D C r K J;go_wp2;go_roundw
     case rel=>exact⟨k+1,by omega,by go_num,G⟩
     case measure=>simp[intOf];omega
    .have q:¬(k:Int)<(n.keys.length:Int):=by omega
     have U:Hid (CB w wr g ((R++n.keys).foldl cstep f)):=hid (by have:=u.out;rwa[K0 (by omega)]at this);clear K J;go_upto_region 11 with fail;clear Y T V;go_loopw [6] (fun s6 wr=>∃k:Nat,k<=n.items.length/\s6=.int .i64 k/\Hid (CB w wr g (((R++n.keys)++n.items.take k).foldl cstep f))) (fun s6 _=>n.items.length-(intOf s6).toNat)
     case atStart=>exact⟨0,by omega,rfl,hid (by rw[X9,X7];exact U.out)⟩
     case round=>
      obtain⟨k,hk,rfl,u⟩:=hrel;have Y:wr.cell? ⟨w.heap.size,0,none⟩=some (.slice (some ad) ns.length c):=by rw[u.out.box.cell];exact s.out.1
      obtain⟨ai,ka,kc,ia,ic,F,T,V,K,J⟩:=y.out wr (.inr u.out.below);injection F with F
      subst F;by_cases hlk:k<n.items.length
      .have q:(k:Int)<(n.items.length:Int):=by omega
       obtain⟨x,r⟩:=ex (n.items[k])
       obtain⟨Z,rfl,_,y0⟩:=zaf J hlk;rw[r]at y0;have aa:x<ns.length:=N.out x (by simp[<-r]);have ae:(x:Int)<(ns.length:Int):=by omega
       obtain⟨l,a⟩:=ex (((R++n.keys)++n.items.take k).foldl cstep f)
       have D:l.length=ns.length:=by rw[<-a,zbv,o.out.1]
       have E:l.getD x 0<=3000000:=by
        rw[<-a];have h1:=zdk ((R++n.keys)++n.items.take k) f x;have h2:=o.out.2.1 x;have h3:=Q.out;simp only[K8,X5]at h1;omega
       have d:=u.out;rw[a]at d;have b:=d.step x;obtain⟨v,C⟩:=ex (l.getD x 0)
       have z0:wr.cell? ⟨w.heap.size+1,x,none⟩=some (.int .i64 (v:Int)):=by rw[d.out.cell,zaa (by omega),C]
       have zf:∀i,wr.frozen? ⟨w.heap.size+1,i,none⟩=false:=d.out.frozen;rw[C]at E b;have G:Hid (CB w (wr.setCell ⟨w.heap.size+1,x,none⟩ (.int .i64 ((v:Int)+1))) g (((R++n.keys)++n.items.take (k+1)).foldl cstep f)):=hid (by
        rw[zaj _ _ hlk,<-Y1,X2,a,r];exact b)
       have ah:k<=1000:=by omega
       clear d b a D C r K J;go_wp2;go_roundw
       case rel=>exact⟨k+1,by omega,by go_num,G⟩
       case measure=>simp[intOf];omega
      .have q:¬(k:Int)<(n.items.length:Int):=by omega
       have ag:Hid (CB w wr g (((R++n.keys)++n.items).foldl cstep f)):=hid (by have:=u.out;rwa[K0 (by omega)]at this);clear K J;have HF:Hid (CB w wr g ((Q4 (ns.take (j+1))).foldl cstep f)):=hid (by rw[ab.out,<-Y1];exact ag.out);go_wp2;go_roundw
       case rel=>exact⟨j+1,by omega,by go_num,HF⟩
       case measure=>simp[intOf];omega
  .have P:¬(j:Int)<(ns.length:Int):=by omega
   have U:Hid (CB w wr g (counts ns root)):=hid (by rw[o.out.2.2];have:=O.out;rwa[K0 (by omega)]at this);go_wp2;go_ret;exact⟨w.heap.size+1,rfl,by omega,U.out.below,U.out.out⟩
structure MB (w wr:World) (gc:Array Value) (m:List Bool):Prop where
 below:Below w.heap.size w wr
 box:Blk wr w.heap.size 24 gc
 out:Blk wr (w.heap.size+1) 4 (bcells m)
 hd:w.heap.size+2<=wr.heap.size
theorem MB.later {w wr w2:World} {gc:Array Value} {m:List Bool} (h:MB w wr gc m) (hb:Below wr.heap.size wr w2):MB w w2 gc m:=
 ⟨h.below.trans (hb.mono h.below.size),h.box.below hb h.box.lt,h.out.below hb h.out.lt,Q2 h.hd hb.size⟩
theorem MB.set {w wr:World} {gc:Array Value} {m:List Bool} (h:MB w wr gc m) (x:Nat) (b:Bool):MB w (wr.setCell ⟨w.heap.size+1,x,none⟩ (.bool b)) gc (m.set x b):=
 ⟨h.below.setCell (by simp) _,h.box.far (by simp) _,by rw[<-zb4];exact h.out.set_ x _,by have:=h.hd;simpa[U0]using this⟩
def OrTo (o m acc:List Bool) (j:Nat):Prop:=acc.length=o.length/\∀x,mkd acc x=if x<j then(mkd o x || mkd m x)else mkd o x
theorem OrTo.step {o m acc:List Bool} {j:Nat} (h:OrTo o m acc j) (hj:j<o.length):OrTo o m (acc.set j (mkd o j || mkd m j)) (j+1):=by
 refine⟨by simp[h.1],fun x=>?_⟩;have a:mkd (acc.set j (mkd o j || mkd m j)) x=if x=j then(mkd o j || mkd m j)else mkd acc x:=by
  unfold mkd;simp only[K9,V0];by_cases e:j=x
  .subst e;simp[h.1,hj]
  .rw[if_neg e,if_neg (fun k=>e k.symm)]
 rw[a,h.2];by_cases e:x=j
 .subst e;rw[if_pos rfl,if_pos (by omega)]
 .rw[if_neg e];by_cases e2:x<j
  .rw[if_pos e2,if_pos (by omega)]
  .rw[if_neg e2,if_neg (by omega)]
theorem OrTo.last {o m acc:List Bool} {j:Nat} (h:OrTo o m acc j) (hm:o.length=m.length) (hj:o.length<=j):acc=Y8 o m:=by
 refine zpx (by rw[h.1,zpy hm]) (fun x=>?_);rw[h.2,zvo hm];by_cases e:x<j
 .rw[if_pos e]
 .rw[if_neg e];have:mkd m x=false:=by unfold mkd;rw[K9,Y5 (by omega)];rfl
  rw[this,Bool.or_false]
theorem zf1 (A:Option Addr) (c:Nat) (root:Int) (vs:List NV) (ns:List Z3) (hr:Refs ns) (hl:ns.length<=1000) (hks:∀n∈ns,n.keys.length<=1000/\n.items.length<=1000)
 (w:World) (h:GAt w w.heap.size A vs ns):
 Calls prog 21 #[.agg #[.slice A ns.length c,.int .i64 root]] w fun e w'=>∃ob,e=.returned (.slice (some ⟨ob,0,none⟩) ns.length ns.length)/\w.heap.size<=ob/\Below w.heap.size w w'/\Blk w' ob 4 (bcells (inKeys ns)):=by
 have H:=hid h;have ab:=fun W=>zbq ns.length (by omega) W
 have ac:Hid (∀k∈allKeys ns,k<ns.length):=hid (zj5 hr);have af:Hid (∀k,k<ns.length->(marks ns k).length=ns.length):=hid (fun k hk=>zau hr hk);have r:Hid ((allKeys ns).foldl (fun o k=>Y8 o (marks ns k)) (K1 ns.length false)=inKeys ns):=hid (zkf hr);have F:Hid (∀L:List Nat,(∀x∈L,x<ns.length)->(L.foldl (fun o k=>Y8 o (marks ns k)) (K1 ns.length false)).length=ns.length):=hid (fun L hL=>(zi8 hr L (K1 ns.length false) hL (by simp)).1);clear h;go_enter func21,ntmps21;go_upto_region 2 with fail;obtain⟨w2,f⟩:=ex ((w.alloc (.cells #[.slice A ns.length c,.int .i64 root] 24)).alloc (.cells (bcells (K1 ns.length false)) 4))
 obtain⟨a,t⟩:∃a:Array Value,#[.slice A ns.length c,.int .i64 root]=a:=⟨_,rfl⟩
 have B:Hid (a[0]? =some (.slice A ns.length c)/\a[1]? =some (.int .i64 root)):=hid (by rw[<-t];exact⟨rfl,rfl⟩);obtain⟨z,s⟩:=ex (K1 ns.length false)
 have aa:Hid (MB w w2 a z):=hid (by
  refine⟨by rw[<-f];exact((K2 _ _).alloc (Q1 _) _).alloc (by simp) _,by rw[<-f,<-t];exact(Y3 _ _ _).alloc _,?_,by rw[<-f];simp⟩;rw[<-f,<-s];have:=Y3 (w.alloc (.cells #[.slice A ns.length c,.int .i64 root] 24)) 4 (bcells (K1 ns.length false));rw[Q6]at this;exact this)
 rw[s]at r F;rw[f];clear f t ab s;go_upto_region 3 with fail;go_loopw [4] (fun s4 wr=>∃j:Nat,j<=ns.length/\s4=.int .i64 j/\Hid (MB w wr a ((allKeys (ns.take j)).foldl (fun o k=>Y8 o (marks ns k)) z))) (fun s4 _=>ns.length-(intOf s4).toNat)
 case atStart=>exact⟨0,by omega,rfl,hid (by simpa[allKeys]using aa.out)⟩
 case round=>
  obtain⟨j,hj,rfl,R⟩:=hrel;have g0:wr.cell? ⟨w.heap.size,0,none⟩=some (.slice A ns.length c):=by rw[R.out.box.cell];exact B.out.1
  by_cases hlt:j<ns.length
  .have S:(j:Int)<(ns.length:Int):=by omega
   have U:ns[j]∈ns:=K3 hlt;obtain⟨n,hn⟩:=ex (ns[j])
   have hkl:n.keys.length<=1000:=by rw[<-hn];exact(hks _ U).1
   obtain⟨K,hK⟩:=ex (allKeys (ns.take j))
   have O:Hid (allKeys (ns.take (j+1))=K++n.keys):=hid (by rw[zid ns j hlt,hK,hn]);have E:Hid (∀x∈K++n.keys,x<ns.length):=hid (fun x D=>ac.out x (zlb ns (j+1) x (by rw[O.out];exact D)));have Y:Hid (∀W,Below w.heap.size w W->∃ad ka kc ia ic,A=some ad/\W.cell? {block:=(ad.add (j*5)).block,off:=(ad.add (j*5)).off+3}=some (.slice ka n.keys.length kc)/\
    W.cell? {block:=(ad.add (j*5)).block,off:=(ad.add (j*5)).off+4}=some (.slice ia n.items.length ic)/\RowAt intL W w.heap.size ka n.keys/\RowAt intL W w.heap.size ia n.items):=hid (fun W hW=>zgt (H.out.below hW) hlt hn)
   rw[hK]at R;obtain⟨ad,ka,kc,ia,ic,rfl,x3,Z,_,_⟩:=Y.out wr R.out.below;clear U hK hn;go_upto_region 6 with fail;clear g0 x3 Z;go_loopw [5] (fun s5 wr=>∃k:Nat,k<=n.keys.length/\s5=.int .i64 k/\Hid (MB w wr a ((K++n.keys.take k).foldl (fun o k=>Y8 o (marks ns k)) z))) (fun s5 _=>n.keys.length-(intOf s5).toNat)
   case atStart=>exact⟨0,by omega,rfl,hid (by rw[X9,X7];exact R.out)⟩
   case round=>
    obtain⟨k,hk,rfl,m⟩:=hrel;have g0:wr.cell? ⟨w.heap.size,0,none⟩=some (.slice (some ad) ns.length c):=by rw[m.out.box.cell];exact B.out.1
    have g1:wr.cell? ⟨w.heap.size,1,none⟩=some (.int .i64 root):=by rw[m.out.box.cell];exact B.out.2
    obtain⟨ad1,ka,kc,ia,ic,he,x3,Z,HK,_⟩:=Y.out wr m.out.below;injection he with he
    subst he;by_cases hlk:k<n.keys.length
    .have T:(k:Int)<(n.keys.length:Int):=by omega
     obtain⟨x,D⟩:=ex (n.keys[k])
     obtain⟨ad2,rfl,_,y0⟩:=zaf HK hlk;rw[D]at y0;have G:x<ns.length:=E.out x (by simp[<-D]);obtain⟨o,ho⟩:∃o,(K++n.keys.take k).foldl (fun o k=>Y8 o (marks ns k)) z=o:=⟨_,rfl⟩
     have l:Hid (o.length=ns.length):=hid (by rw[<-ho];exact F.out _ (fun y hy=>E.out y (by
      rcases List.mem_append.1 hy with hy|hy
      .exact List.mem_append_left _ hy
      .exact Y4 _ (U5 hy))))
     have X:Hid ((K++n.keys.take (k+1)).foldl (fun o k=>Y8 o (marks ns k)) z=Y8 o (marks ns x)):=hid (by rw[zaj _ _ hlk,<-Y1,X2,ho,D];rfl);rw[ho]at m;have HC:Hid (∀d,Calls prog 39 #[.agg #[.slice (some ad) ns.length c,.int .i64 root],.int .i64 x] (wr.drewN d) fun e w'=>∃ob,e=.returned (.slice (some ⟨ob,0,none⟩) ns.length ns.length)/\wr.heap.size<=ob/\Below wr.heap.size wr w'/\Blk w' ob 4 (bcells (marks ns x))):=hid (fun d=>
      (zc1 (some ad) c x root vs ns hr hl hks G (wr.drewN d) (((H.out.below (m.out.below)).more m.out.below.size).below (below_drewN (K2 _ _) d))).mono (fun e w' ⟨ob,h1,h2,h3,h4⟩=>⟨ob,h1,h2,(below_drewN (K2 _ _) d).trans h3,h4⟩))
     have hkb:k<=1000:=by omega
     clear D ho HK Z;go_upto_region 8 with fail;go_still_tail 10,(by kernel_rfl)
     change wpList _ _ _ _ _ wr.drew;go_wp2_with fail;refine(HC.out 1).mono ?_;rintro e w8 ⟨J,rfl,ah,M,V⟩;have ag:Hid (MB w w8 a o):=hid (m.out.later M);have v:Hid (Blk w8 J 4 (bcells (marks ns x))/\w.heap.size+1<J):=hid ⟨V,by have:=m.out.hd;omega⟩;have C:=hid (af.out x G);obtain⟨I,P⟩:=ex (marks ns x)
     rw[P]at v X C;clear ah M V g0 g1 x3 y0 P;go_upto_region 10 with fail;go_loopw [7] (fun s7 wr=>∃(i:Nat) (acc:List Bool),i<=ns.length/\s7=.int .i64 i/\Hid (MB w wr a acc/\OrTo o I acc i/\Blk wr J 4 (bcells I))) (fun s7 _=>ns.length-(intOf s7).toNat)
     case atStart=>exact⟨0,o,by omega,rfl,hid ⟨ag.out,⟨rfl,fun x=>by simp⟩,v.out.1⟩⟩
     case round=>
      obtain⟨i,acc,hi,rfl,g⟩:=hrel;by_cases hli:i<ns.length
      .have N:(i:Int)<(ns.length:Int):=by omega
       have ae:=g.out.2.1.1;have u:=g.out.2.1.2 i;rw[if_neg (Nat.lt_irrefl i)]at u;obtain⟨p,hp⟩:=ex (mkd o i)
       obtain⟨q,hq⟩:=ex (mkd I i)
       have z0:wr.cell? ⟨w.heap.size+1,i,none⟩=some (.bool p):=by
        rw[g.out.1.out.cell,zae (by have:=l.out;omega),<-hp,<-u];rfl
       have q0:wr.cell? ⟨J,i,none⟩=some (.bool q):=by
        rw[g.out.2.2.cell,zae (by have:=C.out;omega),<-hq];rfl
       have zf:∀i,wr.frozen? ⟨w.heap.size+1,i,none⟩=false:=g.out.1.out.frozen;have Q:Hid (∀b,b=(p || q)->MB w (wr.setCell ⟨w.heap.size+1,i,none⟩ (.bool b)) a (acc.set i b)/\OrTo o I (acc.set i b) (i+1)/\Blk (wr.setCell ⟨w.heap.size+1,i,none⟩ (.bool b)) J 4 (bcells I)):=hid (fun b hb=>by
        subst hb;refine⟨g.out.1.set _ _,?_,g.out.2.2.far (by have:=v.out.2;simp;omega) _⟩;have:=g.out.2.1.step (by have:=l.out;omega);rwa[hp,hq]at this)
       have hib:i<=1000:=by omega
       clear ae u hp hq;cases p with
       |true=>
        go_wp2;go_roundw
        case rel=>exact⟨i+1,acc.set i true,by omega,by go_num,hid (Q.out true rfl)⟩
        case measure=>simp[intOf];omega
       |false=>
        have HQ:Hid (q=(false || q)):=hid (by cases q<;>rfl);go_wp2;go_roundw
        case rel=>exact⟨i+1,acc.set i q,by omega,by go_num,hid (Q.out q HQ.out)⟩
        case measure=>simp[intOf];omega
      .have N:¬(i:Int)<(ns.length:Int):=by omega
       have HF:Hid (MB w wr a ((K++n.keys.take (k+1)).foldl (fun o k=>Y8 o (marks ns k)) z)):=hid (by
        rw[X.out,<-g.out.2.1.last (by rw[l.out,C.out]) (by rw[l.out];omega)];exact g.out.1)
       go_wp2;go_roundw
       case rel=>exact⟨k+1,by omega,by go_num,HF⟩
       case measure=>simp[intOf];omega
    .have T:¬(k:Int)<(n.keys.length:Int):=by omega
     have HF:Hid (MB w wr a ((allKeys (ns.take (j+1))).foldl (fun o k=>Y8 o (marks ns k)) z)):=hid (by rw[O.out];have:=m.out;rwa[K0 (by omega)]at this);clear HK Z g1;go_wp2;go_roundw
     case rel=>exact⟨j+1,by omega,by go_num,HF⟩
     case measure=>simp[intOf];omega
  .have S:¬(j:Int)<(ns.length:Int):=by omega
   have HE:Hid (MB w wr a (inKeys ns)):=hid (by rw[<-r.out];have:=R.out;rwa[K0 (by omega)]at this);go_wp2;go_ret;exact⟨w.heap.size+1,rfl,by omega,HE.out.below,HE.out.out⟩
theorem zsl (p:Nat->Bool) (i:Nat):(K5 (i+1)).all p=((K5 i).all p && p i):=by
 rw[X6,V8];simp
theorem zjw {p:Nat->Bool} {i n:Nat} (h:i<n) (hp:p i=false):(K5 n).all p=false:=by
 rw[Q5];exact⟨i,Y0.2 h,by rw[hp];decide⟩
theorem zsm (A:Option Addr) (c:Nat) (root:Int) (vs:List NV) (is:List Gr.Ni) (hl:is.length<=1000) (hks:∀n∈is,n.keys.length<=1000/\n.items.length<=1000/\n.text.length<=268435455)
 (w:World) (h:IAt w w.heap.size A vs is):
 Calls prog 36 #[.agg #[.slice A is.length c,.int .i64 root]] w fun e w'=>e=.returned (.bool (rwell sclX is root))/\Below w.heap.size w w':=by
 have H:=hid h;obtain⟨O,u⟩:=ex (w.alloc (.cells #[.slice A is.length c,.int .i64 root] 24))
 have b1:Blk O w.heap.size 24 #[.slice A is.length c,.int .i64 root]:=by rw[<-u];exact Y3 _ _ _
 have R:Hid (Below w.heap.size w O):=hid (by rw[<-u];exact(K2 _ _).alloc (Q1 _) _);obtain⟨g0,g1⟩:=cells2 b1;have ag:=hid b1;have t:Hid ((is.length=0\/inR is.length root=false)->rwell sclX is root=false):=hid (fun h=>by unfold rwell;rw[if_pos h]);clear h b1;go_enter func36,ntmps36;go_upto_region 1 with fail;(try rw[u]);clear u;by_cases h0:is.length=0
 .have av:((is.length:Int)==0)=true:=by rw[h0];rfl
  have l:Hid (rwell sclX is root=false):=hid (t.out (.inl h0));have H0:=hid h0;clear h0;go_wp2;go_ret;exact⟨by rw[l.out]<;>rfl,R.out⟩
 .have av:((is.length:Int)==0)=false:=by rw[qqq];omega
  by_cases h1:0<=root
  .have au:¬root<0:=by omega
   by_cases h2:root<(is.length:Int)
   .have ak:¬(is.length:Int)<=root:=by omega
    obtain⟨r,rfl⟩:∃r:Nat,root=(r:Int):=⟨root.toNat,by omega⟩
    have hrn:r<is.length:=by omega
    have V:Hid (rwell sclX is (r:Int)=if is.all (rform sclX is.length)=false then false else(K5 is.length).all (rnode (is.map Gr.Ni.nd) r)):=hid (by
     unfold rwell;rw[if_neg,Int.toNat_natCast];rintro(h|h)
     .exact h0 h
     .unfold inR at h;rw[qqk h1,qqk h2]at h;cases h)
    clear t;go_upto_region 5 with fail;clear g0 g1;go_loopw [4] (fun s4 wr=>∃j:Nat,j<=is.length/\s4=.int .i64 j/\Hid (Below O.heap.size O wr/\(is.take j).all (rform sclX is.length)=true)) (fun s4 _=>is.length-(intOf s4).toNat)
    case atStart=>exact⟨0,by omega,rfl,hid ⟨K2 _ _,by simp⟩⟩
    case round=>
     obtain⟨j,hj,rfl,M⟩:=hrel;have d:Hid (Below w.heap.size w wr):=hid (R.out.trans (M.out.1.mono R.out.size));have G:Hid (Blk wr w.heap.size 24 #[.slice A is.length c,.int .i64 r]):=hid (ag.out.below M.out.1 ag.out.lt);by_cases hlt:j<is.length
     .have ah:(j:Int)<(is.length:Int):=by omega
      have g0:wr.cell? ⟨w.heap.size,0,none⟩=some (.slice A is.length c):=G.out.cell 0;have I:is[j]∈is:=K3 hlt;obtain⟨ap,ao,af⟩:=hks _ I;obtain⟨ad,ks,aw,rfl,Z,c0,c1,c2,c3,c4,r1,r2,r3,r4⟩:=(H.out.below d.out).node hlt;obtain⟨ka,kn,kc⟩:=ks;obtain⟨ia,aq,ic⟩:=aw;have K:Hid ((is.take (j+1)).all (rform sclX is.length)=rform sclX is.length is[j]):=hid (by rw[zb7 _ _ _ hlt,M.out.2,X1]);have L:Hid (rform sclX is.length is[j]=false->is.all (rform sclX is.length)=false):=hid (fun h=>by rw[Q5];exact⟨_,I,by rw[h];decide⟩);obtain⟨n,hn⟩:=ex (is[j])
      rw[hn]at c0 c1 c2 r1 r2 r3 r4 ap ao af K L;obtain rfl:kn=n.keys.length:=r2;obtain rfl:aq=n.items.length:=r4;have HC:=hid (zry n.kind n.text n.ord n.keys n.items ka ia kc ic is.length w.heap.size (by omega) af (by omega) (by omega) wr d.out.size r1 r3);obtain⟨b,hb⟩:=ex (rform sclX is.length n)
      have Y:rform sclX is.length ⟨n.kind,n.text,n.ord,n.keys,n.items⟩=b:=hb;rw[Y]at HC;rw[hb]at K L;have hjb:j<=1000:=by omega
      clear hb Y hn I r1 r3 Z;cases b with
      |false=>
       have l:Hid (rwell sclX is (r:Int)=false):=hid (by rw[V.out,if_pos (L.out rfl)]);go_wp2_with fail;refine HC.out.mono ?_;rintro e w2 ⟨rfl,o⟩;go_wp2;go_ret;exact⟨by rw[l.out]<;>rfl,d.out.trans (o.mono d.out.size)⟩
      |true=>
       go_wp2_with fail;refine HC.out.mono ?_;rintro e w2 ⟨rfl,o⟩;have HN:Hid (Below O.heap.size O w2/\(is.take (j+1)).all (rform sclX is.length)=true):=hid ⟨M.out.1.trans (o.mono M.out.1.size),K.out⟩;clear o;go_wp2;go_roundw
       case rel=>exact⟨j+1,by omega,by go_num,HN⟩
       case measure=>simp[intOf];omega
     .have ah:¬(j:Int)<(is.length:Int):=by omega
      have S:Hid (is.all (rform sclX is.length)=true):=hid (by have:=M.out.2;rwa[K0 (by omega)]at this);have ac:Hid (is.all (rng is.length)=true):=hid (K4.2 (fun x hx=>zfk (K4.1 S.out x hx)));have k:Hid (Refs (is.map Gr.Ni.nd)):=hid (za1 ac.out).2;have E:Hid (rwell sclX is (r:Int)=(K5 is.length).all (rnode (is.map Gr.Ni.nd) r)):=hid (by rw[V.out,S.out];rfl);obtain⟨a,m⟩:=ex (is.map Gr.Ni.nd)
      have g:a.length=is.length:=by rw[<-m];simp
      have s:Hid (∀n∈a,n.keys.length<=1000/\n.items.length<=1000):=hid (by
       rw[<-m];intro n hn;obtain⟨x,hx,rfl⟩:=Z2.1 hn;have:=hks x hx;simp only[Gr.Ni.nd,V7];omega)
      have C:Hid (∀W,Below w.heap.size w W->GAt W W.heap.size A vs a):=hid (fun W f=>by
       rw[<-m];exact((H.out.below f).more f.size).toG (za1 ac.out).1)
      rw[m]at k E;clear m;have HS:Hid (∀W,Below wr.heap.size wr W->W.cell? ⟨w.heap.size,0,none⟩=some (.slice A is.length c)/\W.cell? ⟨w.heap.size,1,none⟩=some (.int .i64 r)):=hid (fun W f=>by
       have:=G.out.below f G.out.lt;exact⟨this.cell 0,this.cell 1⟩)
      have ae:Hid (∀W,Below wr.heap.size wr W->Calls prog 39 #[.agg #[.slice A is.length c,.int .i64 r],.int .i64 r] W fun e w'=>Below wr.heap.size wr w'/\∃ob,e=.returned (.slice (some ⟨ob,0,none⟩) is.length is.length)/\Blk w' ob 4 (bcells (marks a r))):=hid (fun W f=>by
       rw[<-g];refine(zc1 A c r (r:Int) vs a k.out (by omega) s.out (by omega) W (C.out W (d.out.trans (f.mono d.out.size)))).mono ?_;rintro e w' ⟨ob,h1,h2,B,N⟩;exact⟨f.trans (B.mono f.size),ob,h1,N⟩)
      have Q:Hid (∀W,Below wr.heap.size wr W->Calls prog 40 #[.agg #[.slice A is.length c,.int .i64 r]] W fun e w'=>Below wr.heap.size wr w'/\Below W.heap.size W w'/\∃ob,e=.returned (.slice (some ⟨ob,0,none⟩) is.length is.length)/\Blk w' ob 3 (icells (counts a r))):=hid (fun W f=>by
       rw[<-g];refine(zfx A c r vs a k.out (by omega) s.out (by omega) W (C.out W (d.out.trans (f.mono d.out.size)))).mono ?_;rintro e w' ⟨ob,h1,h2,B,N⟩;exact⟨f.trans (B.mono f.size),B,ob,h1,N⟩)
      have P:Hid (∀W,Below wr.heap.size wr W->Calls prog 21 #[.agg #[.slice A is.length c,.int .i64 r]] W fun e w'=>Below wr.heap.size wr w'/\Below W.heap.size W w'/\∃ob,e=.returned (.slice (some ⟨ob,0,none⟩) is.length is.length)/\Blk w' ob 4 (bcells (inKeys a))):=hid (fun W f=>by
       rw[<-g];refine(zf1 A c (r:Int) vs a k.out (by omega) s.out W (C.out W (d.out.trans (f.mono d.out.size)))).mono ?_;rintro e w' ⟨ob,h1,h2,B,N⟩;exact⟨f.trans (B.mono f.size),B,ob,h1,N⟩)
      obtain⟨q0,q1⟩:=HS.out wr (K2 _ _);go_upto_region 9 with fail;go_cut [5,6,7] (fun s5 s6 s7 wx=>∃o1 o2 o3,s5=.slice (some ⟨o1,0,none⟩) is.length is.length/\s6=.slice (some ⟨o2,0,none⟩) is.length is.length/\s7=.slice (some ⟨o3,0,none⟩) is.length is.length/\Hid (Blk wx o1 4 (bcells (marks a r))/\Blk wx o2 3 (icells (counts a r))/\Blk wx o3 4 (bcells (inKeys a))/\Below wr.heap.size wr wx))
      case first=>
       go_region_held3 (fun w'=>w'.cell? ⟨w.heap.size,0,none⟩=some (.slice A is.length c)/\w'.cell? ⟨w.heap.size,1,none⟩=some (.int .i64 r))
        (first|go_keep|exact HS.out _ (by(first|assumption|exact K2 _ _|exact(K2 _ _).drew|exact X8 (by assumption)))) (first
        | (go_at_call 39;(with_reducible refine(ae.out _ ?_).mono ?_);(first|assumption|exact K2 _ _|exact(K2 _ _).drew|exact X8 (by assumption));rintro e1 wc1 ⟨hb1,o1,rfl,aa⟩)
        | (go_at_call 40;(with_reducible refine(Q.out _ ?_).mono ?_);(first|assumption|exact K2 _ _|exact(K2 _ _).drew|exact X8 (by assumption));rintro e2 wc2 ⟨o,ar,o2,rfl,X⟩)
        | (go_at_call 21;(with_reducible refine(P.out _ ?_).mono ?_);(first|assumption|exact K2 _ _|exact(K2 _ _).drew|exact X8 (by assumption));rintro e3 wc3 ⟨am,ai,o3,rfl,an⟩))
       all_goals
        go_wp2;go_meet
       have z:=aa.below ar aa.lt;exact⟨o1,o2,o3,rfl,rfl,rfl,hid ⟨z.below ai z.lt,X.below ai X.lt,an,am⟩⟩
      case rest=>
       obtain⟨o1,o2,o3,rfl,rfl,rfl,HO⟩:=hcut;have D:Hid (Below w.heap.size w wc):=hid (d.out.trans (HO.out.2.2.2.mono d.out.size));have J:Hid ((marks a r).length=is.length/\(counts a r).length=is.length/\(inKeys a).length=is.length):=hid ⟨by rw[zau k.out (by omega),g],by
        unfold counts;rw[zbv,zb5,U4,g],by rw[zcy k.out,g]⟩
       have al:Hid (∀i,(counts a r).getD i 0<=4000000):=hid (fun i=>by
        have h1:∀j,(Q4 (a.take j)).length<=2000*j:=fun j=>by
         induction j with
         |zero=>simp[Q4]
         |succ j ih=>
          by_cases hj:j<a.length
          .rw[zdl a j hj];have:=s.out _ (K3 hj);simp only[K8];omega
          .rw[K0 (by omega)];rw[K0 (by omega)]at ih;omega
        have h2:=h1 a.length;rw[List.take_length]at h2;unfold counts;have B:=zdk (Q4 a) (cstep (K1 a.length 0) r) i;have N:=zeq (K1 a.length 0) r i;have h5:(K1 a.length 0).getD i 0=0:=by simp[K9,U2];split<;>rfl
        omega)
       clear q0 q1 g ae Q P HS;go_upto_region 11 with fail;go_loop [8] (fun s8=>∃i:Nat,i<=is.length/\s8=.int .i64 i/\Hid ((K5 i).all (rnode a r)=true)) (fun s8=>is.length-(intOf s8).toNat)
       case atStart=>exact⟨0,by omega,rfl,hid rfl⟩
       case round=>
        obtain⟨i,hi,rfl,HI⟩:=hrel;by_cases hli:i<is.length
        .have ab:(i:Int)<(is.length:Int):=by omega
         obtain⟨p,hp⟩:=ex ((marks a r).getD i false)
         obtain⟨q,hq⟩:=ex ((inKeys a).getD i false)
         obtain⟨v,hv⟩:=ex ((counts a r).getD i 0)
         have hvb:v<=4000000:=by rw[<-hv];exact al.out i
         have z1:wc.cell? ⟨o1,i,none⟩=some (.bool p):=by rw[HO.out.1.cell,zae (by have:=J.out;omega),hp]
         have z2:wc.cell? ⟨o2,i,none⟩=some (.int .i64 (v:Int)):=by rw[HO.out.2.1.cell,zaa (by have:=J.out;omega),hv]
         have z3:wc.cell? ⟨o3,i,none⟩=some (.bool q):=by rw[HO.out.2.2.1.cell,zae (by have:=J.out;omega),hq]
         have y:Hid (rnode a r i=(p && !(q && v != 1))):=hid (by unfold rnode mkd;rw[hp,hq,hv]);have U:Hid (rnode a r i=true->(K5 (i+1)).all (rnode a r)=true):=hid (fun h=>by rw[zsl,HI.out,h];rfl);have aj:Hid (rnode a r i=false->rwell sclX is (r:Int)=false):=hid (fun h=>by rw[E.out];exact zjw hli h);have hib:i<=1000:=by omega
         clear hp hq hv;cases p with
         |false=>
          have l:Hid (rwell sclX is (r:Int)=false):=hid (aj.out (by rw[y.out];rfl));go_wp2;go_ret;exact⟨by rw[l.out]<;>rfl,D.out⟩
         |true=>
          cases q with
          |false=>
           have F:Hid ((K5 (i+1)).all (rnode a r)=true):=hid (U.out (by rw[y.out];rfl));go_wp2;go_round
           case rel=>exact⟨i+1,by omega,by go_num,F⟩
           case measure=>simp[intOf];omega
          |true=>
           by_cases hv1:v=1
           .subst hv1;have F:Hid ((K5 (i+1)).all (rnode a r)=true):=hid (U.out (by rw[y.out];rfl));go_wp2;go_round
            case rel=>exact⟨i+1,by omega,by go_num,F⟩
            case measure=>simp[intOf];omega
           .have l:Hid (rwell sclX is (r:Int)=false):=hid (aj.out (by
             rw[y.out];have:(v != 1)=true:=by simpa using hv1
             rw[this];rfl))
            have T:¬(v:Int)=1:=by omega
            have hvb2:((v:Int)==1)=false:=by rw[qqq];exact T
            have hvn:((v:Int) != 1)=true:=by rw[bne_iff_ne];exact T
            go_wp2;go_ret;exact⟨by rw[l.out]<;>rfl,D.out⟩
        .have ab:¬(i:Int)<(is.length:Int):=by omega
         have l:Hid (rwell sclX is (r:Int)=true):=hid (by rw[E.out];have:=HI.out;rwa[show i=is.length from by omega]at this);go_wp2;go_ret;exact⟨by rw[l.out]<;>rfl,D.out⟩
   .have ak:(is.length:Int)<=root:=by omega
    have l:Hid (rwell sclX is root=false):=hid (t.out (.inr (by unfold inR;rw[qqx h2,Z0])));go_wp2;go_ret;exact⟨by rw[l.out]<;>rfl,R.out⟩
  .have au:root<0:=by omega
   have l:Hid (rwell sclX is root=false):=hid (t.out (.inr (by unfold inR;rw[qqx h1,Bool.false_and])));go_wp2;go_ret;exact⟨by rw[l.out]<;>rfl,R.out⟩
theorem zsn (d:Nat) (h:d<10) (i:Int) (hi:i=d) (k:Int) (hk:k=d+1) (W:World):(Instr.slice 9 (.string ⟨#[48,49,50,51,52,53,54,55,56,57]⟩) (some (.int .i64 i)) (some (.int .i64 k)) none).run prog W=.ok (.string ⟨(Lib.decDigits d).toArray⟩) W:=by
 rw[V6 h];subst hi;subst hk;obtain rfl|rfl|rfl|rfl|rfl|rfl|rfl|rfl|rfl|rfl:d=0\/d=1\/d=2\/d=3\/d=4\/d=5\/d=6\/d=7\/d=8\/d=9:=by omega
 all_goals kernel_rfl
theorem zu8 {n:Nat} (h:¬n<10):Lib.decDigits n=Lib.decDigits (n /10)++Lib.decDigits (n%10):=by
 rw[V6 (Z6 _ (by omega)),Lib.decDigits.eq_1 n,dif_neg h]
theorem zjx:∀(f n:Nat),n<f->n<=999999999->∀w:World,Calls prog 67 #[.int .i64 n] w fun e w'=>e=.returned (.string ⟨(Lib.decDigits n).toArray⟩)/\Below w.heap.size w w':=by
 intro f
 induction f with
 |zero=>intro n h;omega
 |succ f ih=>
  intro n hn hb w;by_cases h:n<10
  .have y:(n:Int)<10:=by omega
   have k:=zsn n h (n:Int) rfl ((n:Int)+1) rfl;go_enter func67,ntmps67;go_wp2;go_ret;exact⟨rfl,K2 _ _⟩
  .have y:¬(n:Int)<10:=by omega
   have k:=zsn (n%10) (Z6 _ (by omega)) ((n%10:Nat):Int) rfl (((n%10:Nat):Int)+1) rfl;have t:(n:Int).tdiv 10=((n /10:Nat):Int):=by rw[Int.tdiv_eq_ediv_of_nonneg (by omega)];rfl
   have v:(n:Int).tmod 10=((n%10:Nat):Int):=by rw[Int.tmod_eq_emod_of_nonneg (by omega)];rfl
   have m:=zu8 h;have l:Hid (∀x:WB w.heap.size w,Calls prog 67 #[.int .i64 ((n /10:Nat):Int)] x.w fun e w'=>e=.returned (.string ⟨(Lib.decDigits (n /10)).toArray⟩)/\Below w.heap.size w w'):=Lib.hid (fun x=>(ih (n /10) (by omega) (by omega) x.w).mono (fun _ _ ⟨r,z⟩=>⟨r,x.h.trans (z.mono x.h.size)⟩));obtain⟨a,j⟩:=ex (Lib.decDigits (n /10))
   obtain⟨b,c⟩:=ex (Lib.decDigits (n%10))
   obtain⟨q,i⟩:=ex (n /10)
   obtain⟨d,g⟩:=ex (n%10)
   have hadd:=zad a b (by
    have u:=Gr.dec_len (n /10) (by omega);have s:=Gr.dec_len (n%10) (by omega);rw[j]at u;rw[c]at s;omega)
   have o:Hid (Lib.decDigits n=a++b):=Lib.hid (by rw[m,j,c]);rw[j,i]at l;rw[c,g]at k;rw[i]at t;rw[g]at v;have hd9:d<=9:=by omega
   have hqb:q<=99999999:=by omega
   clear m j c i g ih;go_enter func67,ntmps67;go_upto_region 3 with fail;refine zac w.heap.size w (by kernel_rfl) (by kernel_rfl) (K2 _ _) ?_
   repeat (go_big_quiet_step (((first| (with_reducible refine Calls.grow (l.out _))))))
   refine wpQuiet_nil ?_;rintro _ ⟨p,rfl⟩;go_wp2;go_ret;exact⟨by rw[o.out]<;>rfl,p.h⟩
theorem zl9:∀(x y:Q0),Op.bytesLess x y=Gr.ltS x y
 | [],[]=>rfl
 |_::_,[]=>rfl
 | [],_::_=>rfl
 |a::x,b::y=>by
  rw[Op.bytesLess,zl9 x y,Gr.ltS]
  congr 1
namespace Gr
theorem zso (t:Str) (a b:List Str) (h:∀y∈a,ltS t y=true):insR t (a++b)=a++insR t b:=by
 induction a with
 |nil=>rfl
 |cons y a ih=>
  rw[List.cons_append,insR,if_pos (h y (.head _)),ih (fun z c=>h z (.tail _ c))];rfl
theorem zyc (t:Str) (L:List Str) (k:Nat) (hk:k<=L.length) (h1:∀y∈L.drop k,ltS t y=true) (h2:∀j,(h:j<L.length)->j+1=k->ltS t L[j]=false):insL L t=L.take k++t::L.drop k:=by
 unfold insL;have e:L.reverse=(L.drop k).reverse++(L.take k).reverse:=by rw[<-Y7,U3]
 rw[e,zso t _ _ (fun y b=>h1 y (List.mem_reverse.1 b)),Y7,List.reverse_reverse];have c:(insR t (L.take k).reverse).reverse=L.take k++[t]:=by
  cases k with
  |zero=>simp[insR]
  |succ k=>
   have a:k<L.length:=by omega
   rw[K6 a,Y7,List.reverse_singleton,List.singleton_append,insR,if_neg (by rw[h2 k a rfl];decide)];simp
 rw[c];simp
def wand (L:List Str) (t:Str) (k:Nat):List Str:=L.take k++t::L.drop k
theorem zma (L:List Str) (t:Str) (k:Nat) (hk:k<=L.length):(wand L t k).length=L.length+1:=by
 unfold wand;simp;omega
theorem zyd (L:List Str) (t:Str) (k:Nat) (hk:k<=L.length):(wand L t k)[k]? =some t:=by
 unfold wand;rw[List.getElem?_append_right (by simp;omega)];simp[Nat.min_eq_left hk]
theorem zu9 (L:List Str) (t:Str) (k:Nat) (hk:k<L.length):(wand L t (k+1))[k]? =some L[k]:=by
 unfold wand;rw[U1 (by simp;omega),U9,if_pos (by omega),K7 hk]
theorem zsp (L:List Str) (t:Str) (k:Nat) (hk:k<L.length):((wand L t (k+1)).set k t).set (k+1) L[k]=wand L t k:=by
 unfold wand;apply List.ext_getElem?;intro i;have a:(L.take (k+1)).length=k+1:=by simp;omega
 have hl2:(L.take k).length=k:=by simp;omega
 simp only[V0,Y2,K8,V3,List.length_drop,a];by_cases h1:k+1=i
 .grind
 .grind
theorem zsq (ns:List Nd) (f:Nat) (x:Nd) (i:Nat) (h:i<x.items.length):(ents ns f x).take (i+1)=(ents ns f x).take i++[(if x.kind=10 then printF ns f (x.keys.getD i 0)else[])++printF ns f (x.items.getD i 0)]:=by
 have a:i<(ents ns f x).length:=by unfold ents;simpa using h
 rw[K6 a]
 congr 2
 unfold ents;simp
def entT (ns:List Nd) (f:Nat) (x:Nd) (k:Nat):List Str:=if x.kind=10/\x.ord=false then((ents ns f x).take k).foldl insL []else(ents ns f x).take k
theorem zsr (ns:List Nd) (f:Nat) (x:Nd):entT ns f x 0=[]:=by unfold entT;split<;>simp
theorem zss (ns:List Nd) (f:Nat) (x:Nd) (k:Nat) (h:x.items.length<=k):entT ns f x k=entS ns f x:=by
 have hl:(ents ns f x).length=x.items.length:=by unfold ents;simp
 unfold entT entS sortS;rw[K0 (by omega)]
theorem zva (ns:List Nd) (f:Nat) (x:Nd) (k:Nat) (h:k<=x.items.length):(entT ns f x k).length=k:=by
 have hl:(ents ns f x).length=x.items.length:=by unfold ents;simp
 unfold entT;split
 .rw[(zi0 _ []).length_eq];simp;omega
 .simp;omega
theorem zst (ns:List Nd) (f:Nat) (x:Nd) (k:Nat) (h:k<x.items.length):entT ns f x (k+1)=if x.kind=10/\x.ord=false then insL (entT ns f x k) ((if x.kind=10 then printF ns f (x.keys.getD k 0)else[])++printF ns f (x.items.getD k 0))
 else entT ns f x k++[(if x.kind=10 then printF ns f (x.keys.getD k 0)else[])++printF ns f (x.items.getD k 0)]:=by
 unfold entT;rw[zsq ns f x k h];by_cases hm:x.kind=10/\x.ord=false
 .grind
 .grind
theorem zf2 (l:List Str) (i:Nat):(l.take i).flatten.length<=l.flatten.length:=by
 have:l.flatten=(l.take i).flatten++(l.drop i).flatten:=by rw[<-List.flatten_append,U3]
 rw[this,K8];omega
end Gr
def strL:Lay Q0:={enc:=fun x=>[.string ⟨x.toArray⟩],sz:=1,len:=fun _=>rfl,one:=fun x u hu=>by simp at hu;subst hu;rfl,pos:=by omega}
theorem strT:SliceT Tryz.prog strL 76 9 16:=zb3 strL 76 9 (.string ⟨#[]⟩) 16 Tryz.underlying76 (by kernel_rfl) rfl (by omega)
theorem ze0 (l:List Q0):strL.all l=l.map (fun x=>Value.string ⟨x.toArray⟩):=by
 induction l with
 |nil=>rfl
 |cons x l ih=>
  have e:strL.all (x::l)=strL.enc x++strL.all l:=rfl;rw[e,ih];rfl
theorem zv7 {w:World} {B:Nat} {A:Option Addr} {l:List Q0} {k:Nat} (h:RowAt strL w B A l) (hk:k<l.length):∃ad,A=some ad/\ad.block<B/\w.cell? (ad.add k)=some (.string ⟨l[k].toArray⟩):=by
 obtain⟨ad,a,c,b,_⟩:=h.get hk;refine⟨ad,a,c,?_⟩;have:=b (.string ⟨l[k].toArray⟩) rfl;rwa[show k*strL.sz=k from U6 k]at this
theorem zk4 {w:World} {base n c g:Nat} {l:List Q0} (h:OwnRow strL w base 9 (.slice (some ⟨g,0,none⟩) n c) l):∃cur,Blk w g 9 cur/\base<=g/\(∀j (hj:j<l.length),w.cell? ⟨g,j,none⟩=some (.string ⟨l[j].toArray⟩))/\
 (∀j,w.frozen? ⟨g,j,none⟩=false)/\∀j x,j<l.length->OwnRow strL (w.setCell ⟨g,j,none⟩ (.string ⟨x.toArray⟩)) base 9 (.slice (some ⟨g,0,none⟩) n c) (l.set j x):=by
 obtain⟨k,q⟩:=h;rcases q with⟨p,_⟩|⟨g2,cap,cur,s,o,r,f,e,i,a⟩
 .cases p
 .injection s with e1 e2 e3
  injection e1 with e1
  injection e1 with e1 _ _
  subst e1;subst e2;subst e3;have d:Blk w g 9 cur:=r;have b:strL.sz=1:=rfl;rw[b,U6]at a;refine⟨cur,d,o,fun j hj=>?_,d.frozen,fun j x hj=>?_⟩
  .rw[d.cell];have m:(cur.toList.take l.length)[j]? =some (.string ⟨l[j].toArray⟩):=by rw[a,ze0];simp[hj]
   rw[U9,if_pos hj]at m;simpa using m
  .refine⟨by rw[ze0];rw[ze0]at k;simpa using k,.inr ⟨g,c,cur.setIfInBounds j (.string ⟨x.toArray⟩),by rw[Y2],o,d.set_ j _,by rw[Y2];exact f,e,by simpa using i,?_⟩⟩;rw[b,U6,Y2];rw[ze0]at a ⊢;rw[List.map_set,<-a,<-List.take_set];simp
namespace Gr
def dupB (ns:List Nd) (r:Nat):Bool:=(counts ns r).any (fun n=>decide (1<n))
theorem zeb (ns:List Nd) (r:Nat):(counts ns r).length=ns.length:=by unfold counts;rw[zbv,zb5];simp
theorem zn6 {f:Nat->List Nat} {a b:Nat} (h:Reach f a b):a=b\/∃u,b∈f u:=by
 induction h with
 |refl=>exact .inl rfl
 |step h1 _ ih=>
  rcases ih with rfl|h2
  .exact .inr ⟨_,h1⟩
  .exact .inr h2
theorem WellF.cnt {ns:List Nd} {r:Nat} (h:WellF ns r) (v:Nat) (hv:v<ns.length):1<=(counts ns r).getD v 0:=by
 rw[zcx hv];by_cases hvr:v=r
 .simp[hvr]
 .rcases zn6 (h.all v hv)with e|⟨u,hu⟩
  .exact absurd e.symm hvr
  .have:v∈Q4 ns:=by
    unfold succ at hu;cases hx:ns[u]? with
    |none=>rw[hx]at hu;cases hu
    |some x=>rw[hx]at hu;exact X4.2 ⟨x,List.mem_of_getElem? hx,hu⟩
   have:=List.count_pos_iff.2 this;omega
theorem zuy {ns:List Nd} {r:Nat} (h:WellF ns r):(counts ns r).all (fun n=>n==1)=!dupB ns r:=by
 unfold dupB;rw[List.not_any_eq_all_not];have hl:=zeb ns r;rw[V9,K4,K4];constructor
 .intro b x a;have:=b x a;simp at this;simp[this]
 .intro b x a;have d:=b x a;obtain⟨i,c,rfl⟩:=Q7.1 a;have:=h.cnt i (by omega);rw[K9,K7 c,U7]at this;simp at d;simp;omega
end Gr
end Go.Proofs.YtpgmfihonmoliabGreatDoor

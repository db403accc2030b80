import Derived.Test.YtpjmhafmeieloaaGreatDoorZ10
import Derived.Test.YtpjmhafmeieloaaGreatDoorGrDecR5
import Derived.Test.YtpjmhafmeieloaaGreatDoorGrDecE
namespace Go.Proofs.YtpjmhafmeieloaaGreatDoor
open _root_.Go.Proofs.Tryz
set_option maxRecDepth 100000
set_option maxHeartbeats 16000000
open Go.RowKit
theorem zik (text:Gr.Str):ScalOk UT 0 text text.isEmpty:=by
 intro w _;have ht:=zg0 text;go_enter func22,ntmps22;go_wp2;go_ret;exact⟨rfl,Below.refl _ _⟩
theorem zep (text:Gr.Str) (hl:text.length<=1073741823):ScalOk UT 2 text (Gr.intB text):=by
 intro w _;have a:=Lib.hid (fun W=>zee text hl W);obtain⟨r,c⟩:=ex (Gr.intB text)
 rw[c]at a ⊢;clear c;go_enter func22,ntmps22;go_wp2_with fail;refine(a.out _).mono ?_;rintro e w2 ⟨rfl,b⟩;have d:=Lib.hid b;clear b;go_wp2;go_ret;exact⟨rfl,d.out⟩
def utfB (s:Gr.Str):Bool:=(Utf.bad s).isNone
theorem zff (text:Gr.Str) (hl:text.length<=1073741823):ScalOk UT 5 text (utfB text):=by
 intro w c;have a:=Lib.hid (zgz text hl w c.1 c.2 _ rfl);unfold utfB;cases hr:Utf.bad text with
 |none=>
  rw[hr]at a;unfold ckVal at a;simp only at a;clear hr c;go_enter func22,ntmps22;go_wp2_with fail;refine a.out.mono ?_;rintro e f ⟨rfl,b⟩;have d:=Lib.hid b;clear b;go_wp2;go_ret;exact⟨rfl,d.out⟩
 |some i=>
  rw[hr]at a;unfold ckVal at a;simp only at a;clear hr c;go_enter func22,ntmps22;go_wp2_with fail;refine a.out.mono ?_;rintro e f ⟨rfl,b⟩;have d:=Lib.hid b;clear b;go_wp2;go_ret;exact⟨rfl,d.out⟩
namespace Gr
open Classical in
noncomputable def wt (sc:Nat->List Nat) (n v:Nat):Nat:=(List.range n).countP (fun i=>decide (Reach sc v i/\Reach sc i v))
structure LongR (sc:Nat->List Nat) (n:Nat) (F:Nat->Nat):Prop where
 up:∀v u,v<n->u<n->Reach sc v u->Reach sc u v->∀x∈sc u,¬Reach sc x v->wt sc n v+F x<=F v
 att:∀v,v<n->F v=wt sc n v\/∃u,u<n/\Reach sc v u/\Reach sc u v/\∃x∈sc u,¬Reach sc x v/\F v=wt sc n v+F x
theorem zkz (sc:Nat->List Nat) (n v:Nat) (h:v<n):0<wt sc n v:=by
 unfold wt;exact List.countP_pos_iff.2 ⟨v,List.mem_range.2 h,by simpa using Reach.refl v⟩
section
variable {ns:List Nd} {root:Nat}
theorem zfb (h:Refs ns) (hr:root<ns.length) (hall:∀v,v<ns.length->Reach (succ ns) root v):
 ∃F:Nat->Nat,LongR (succ ns) ns.length F/\(depth ns root).1=(F root:Int)-1/\((depth ns root).2=true↔∀u,u<ns.length->∀x∈succ ns u,¬Reach (succ ns) x u):=by
 obtain⟨d,p,F,h0,h1,m,s,j,r,h6⟩:=zlv h hr hall;have o:∀v,v<ns.length->p v=wt (succ ns) ns.length v:=by
  intro v c;rw[s v c];unfold wt;apply List.countP_congr;intro i q;have:=m i v (List.mem_range.1 q) c;simp only[beq_iff_eq,decide_eq_true_eq];rw[this];exact And.comm
 have l:∀v u x,v<ns.length->u<ns.length->Reach (succ ns) v u->Reach (succ ns) u v->x∈succ ns u->(d x≠d u↔¬Reach (succ ns) x v):=by
  intro v u x c f a b g;have:=m x u (h.succ u x g) f;rw[ne_eq,this];constructor
  .exact fun k e=>k ⟨e.trans a,.one g⟩
  .exact fun k e=>k (e.1.trans b)
 refine⟨F,⟨fun v u c f a b x g n=>?_,fun v c=>?_⟩,r,?_⟩
 .have e:d u=d v:=(m u v f c).2 ⟨b,a⟩;have:=j.up u f x g ((l v u x c f a b g).2 n);rw[j.same u v e,j.szs u v e,o v c]at this;exact this
 .rcases j.att v c with a|⟨u,f,e,x,g,n,he⟩
  .exact .inl (a.trans (o v c))
  .grind
 .grind
theorem zda {u:Nat} (hu:u<ns.length):succ ns u=ns[u].keys++ns[u].items:=by unfold succ;rw[List.getElem?_eq_getElem hu]
theorem zme (h:Refs ns) (hr:root<ns.length) (hall:∀v,v<ns.length->Reach (succ ns) root v) (hone:∀x,x<ns.length->mkd (inKeys ns) x=true->(counts ns root).getD x 0=1):
 (∀u,u<ns.length->∀x∈succ ns u,¬Reach (succ ns) x u)↔∀(u:Nat) (hu:u<ns.length),∀x∈ns[u].items,¬Reach (succ ns) x u:=by
 constructor
 .intro k u hu x a;exact k u hu x (by rw[zda hu];exact List.mem_append_right _ a)
 .intro k u hu x a;have b:=a;rw[zda hu]at b;rcases List.mem_append.1 b with hk|hi
  .intro e;have d:=h.succ u x a;have c:mkd (inKeys ns) x=true:=(zan h x).2 ⟨x,List.mem_flatMap.2 ⟨_,List.getElem_mem hu,hk⟩,.refl _⟩;cases e with
   |refl=>exact zg3 h hr hall hone d c a (.refl _)
   |step h1 h2=>exact zg3 h hr hall hone d c h1 (h2.trans (.one a))
  .exact k u hu x hi
end
end Gr
namespace Gr
def rform (sclr:Int->Str->Bool) (n:Nat) (x:Ni):Bool:=
 if(x.items.all (inR n) && x.keys.all (inR n))=false then false
 else if x.kind≠10/\(x.ord=true\/0<x.keys.length)then false
 else if x.kind=9 then x.text.isEmpty
 else if x.kind=10 then x.text.isEmpty && decide (x.keys.length=x.items.length)
 else if x.kind=11 then decide (x.items.length=1) && nameB x.text
 else decide (x.items.length=0) && sclr x.kind x.text
def rnode (ns:List Nd) (root i:Nat):Bool:=mkd (marks ns root) i && !(mkd (inKeys ns) i && (counts ns root).getD i 0 != 1)
def rwell (sclr:Int->Str->Bool) (is:List Ni) (root:Int):Bool:=
 if is.length=0\/inR is.length root=false then false
 else if is.all (rform sclr is.length)=false then false
 else(List.range is.length).all (rnode (is.map Ni.nd) root.toNat)
def rcheck (sclr:Int->Str->Bool) (is:List Ni) (root:Int):Nat:=
 if is.length>4096 then 7 else if rwell sclr is root=false then 3 else if rtwice (is.map Ni.nd) is.length=true then 8 else if(depth (is.map Ni.nd) root.toNat).1>32 then 5 else 0
theorem zjo {α:Type} (l:List α):l.isEmpty=decide (l.length=0):=by cases l<;>rfl
theorem zg4 (sclr:Int->Str->Bool) (n:Nat) (x:Ni) (h:rng n x=true):rform sclr n x=formB sclr x.nd:=by
 have d:(x.items.all (inR n) && x.keys.all (inR n))=true:=by
  unfold rng at h;rw[List.all_append,Bool.and_eq_true]at h;rw[h.1,h.2];rfl
 obtain⟨a,text,c,b,items⟩:=x;unfold rform formB Ni.nd;simp only at d ⊢;rw[d,if_neg (by decide)];simp only[zjo,List.length_map];by_cases h9:a=9
 .grind
 .rw[if_neg h9,if_neg h9];by_cases h10:a=10
  .grind
  .rw[if_neg h10,if_neg h10];have e:(a≠10/\(c=true\/0<b.length))↔((!c && decide (b.length=0))=false):=by
    grind
   by_cases h11:a=11
   .grind
   .grind
theorem zfd {sclr:Int->Str->Bool} {n:Nat} {x:Ni} (h:rform sclr n x=true):rng n x=true:=by
 unfold rform at h;split at h
 .cases h
 .rename_i hc;rw[Bool.not_eq_false,Bool.and_eq_true]at hc;unfold rng;rw[List.all_append,hc.1,hc.2];rfl
theorem zmh {α β:Type} (f:α->β) (p:β->Bool) (l:List α):(l.map f).all p=l.all (fun x=>p (f x)):=by
 grind
theorem zih {sclr:Int->Str->Bool} (hs:∀k t,sclr k t=true->0<=k/\k<=8) {x:Nd} (h:formB sclr x=true):0<=x.kind/\x.kind<=11/\(x.kind=10->x.keys.length=x.items.length):=by
 unfold formB at h;split at h
 .omega
 .grind
theorem zo5 (ns:List Nd):∀f i,Tall ns f i->Tall' ns f i:=by
 intro f
 induction f with
 |zero=>intro i h;exact h
 |succ f ih=>intro i h x a;exact ih x (h x a)
theorem zfz (ns:List Nd) (p:Nat->Bool) (q:Nd->Bool):(List.range ns.length).all (fun i=>p i && q (ns.getD i ⟨0,[],false,[],[]⟩))=(ns.all q && (List.range ns.length).all p):=by
 rw[Bool.eq_iff_iff,Bool.and_eq_true,List.all_eq_true,List.all_eq_true,List.all_eq_true];constructor
 .intro h;refine⟨fun x b=>?_,fun i a=>?_⟩
  .obtain⟨i,a,rfl⟩:=List.mem_iff_getElem.1 b;have:=h i (List.mem_range.2 a);rw[Bool.and_eq_true,List.getD_eq_getElem?_getD,List.getElem?_eq_getElem a]at this;exact this.2
  .grind
 .grind
theorem zfe (sclr:Int->Str->Bool) (hs:∀k t,sclr k t=true->0<=k/\k<=8) (is:List Ni) (root:Int):rcheck sclr is root=checkI sclr is root:=by
 unfold rcheck checkI;by_cases h1:is.length>4096
 .rw[if_pos h1,if_pos h1]
 .rw[if_neg h1,if_neg h1];by_cases h2:is.length=0\/inR is.length root=false
  .rw[if_pos (show rwell sclr is root=false by unfold rwell;rw[if_pos h2]),if_pos];rcases h2 with h2|h2
   .exact .inl h2
   .right;unfold indB;rw[h2];rfl
  .have c:inR is.length root=true:=by
    grind
   by_cases h3:is.all (rng is.length)=true
   .have g:indB is root=true:=by unfold indB;rw[c,h3];rfl
    rw[if_neg (show¬(is.length=0\/indB is root=false) by rintro(h|h);exact h2 (.inl h);rw[g]at h;cases h)];obtain⟨_,e⟩:=za8 h3;have l:(is.map Ni.nd).length=is.length:=by simp
    have o:root.toNat<(is.map Ni.nd).length:=by
     rw[l];unfold inR at c;rw[Bool.and_eq_true,decide_eq_true_eq,decide_eq_true_eq]at c;omega
    have d:is.all (rform sclr is.length)=(is.map Ni.nd).all (formB sclr):=by
     rw[zmh,Bool.eq_iff_iff,List.all_eq_true,List.all_eq_true];constructor
     .intro h x f;rw[<-zg4 sclr is.length x (List.all_eq_true.1 h3 x f)];exact h x f
     .intro h x f;rw[zg4 sclr is.length x (List.all_eq_true.1 h3 x f)];exact h x f
    have r:rwell sclr is root=((is.map Ni.nd).all (formB sclr) && (List.range is.length).all (rnode (is.map Ni.nd) root.toNat)):=by
     unfold rwell;rw[if_neg h2,d];by_cases hf:(is.map Ni.nd).all (formB sclr)=false
     .rw[if_pos hf,hf];rfl
     .grind
    rw[r];clear r d h2;generalize hns:is.map Ni.nd=ns at *;rw[<-l];unfold checkN;rw[zfz];have j:(List.range ns.length).all (rnode ns root.toNat)=((List.range ns.length).all (fun i=>(marks ns root.toNat).getD i false) && !(List.range ns.length).any (fun i=>(inKeys ns).getD i false && (counts ns root.toNat).getD i 0 != 1)):=by
     rw[Bool.eq_iff_iff,Bool.and_eq_true,List.all_eq_true,List.all_eq_true,Bool.not_eq_true',List.any_eq_false];constructor
     .intro h;refine⟨fun i g=>?_,fun i g=>?_⟩
      .have:=h i g;unfold rnode at this;rw[Bool.and_eq_true]at this;exact this.1
      .have:=h i g;unfold rnode at this;rw[Bool.and_eq_true,Bool.not_eq_true']at this;rw[Bool.not_eq_true];exact this.2
     .rintro⟨a,b⟩ i g;unfold rnode;rw[Bool.and_eq_true,Bool.not_eq_true',<-Bool.not_eq_true];exact⟨a i g,b i g⟩
    rw[j];by_cases hf:ns.all (formB sclr)=true
    .rw[hf,Bool.true_and,Bool.true_and];by_cases hm:(List.range ns.length).all (fun i=>(marks ns root.toNat).getD i false)=true
     .rw[hm,Bool.true_and];by_cases hk:(List.range ns.length).any (fun i=>(inKeys ns).getD i false && (counts ns root.toNat).getD i 0 != 1)=true
      .rw[hk];simp
      .rw[Bool.not_eq_true]at hk;rw[hk];simp only[Bool.not_false,Bool.true_eq_false,if_false,Bool.false_eq_true,not_true];have m:∀v,v<ns.length->Reach (succ ns) root.toNat v:=fun v s=>(za2 e o v).1 (List.all_eq_true.1 hm v (List.mem_range.2 s))
       have p:∀x,x<ns.length->mkd (inKeys ns) x=true->(counts ns root.toNat).getD x 0=1:=by
        intro x f n;have:=List.any_eq_false.1 hk x (List.mem_range.2 f);unfold mkd at n;rw[n,Bool.true_and]at this;simpa using this
       have q:NodesOk ns:=fun x f=>zih hs (List.all_eq_true.1 hf x f)
       have u:∀k∈allKeys ns,TOk ns ns.length k:=fun k hk=>by
        obtain⟨a,b⟩:=zfa e o m p k hk;exact⟨a,zo5 ns _ _ b⟩
       rw[zem q e ns.length u]
     .grind
    .grind
   .have g:indB is root=false:=by
     rw[Bool.not_eq_true]at h3;unfold indB;rw[h3,Bool.and_false]
    rw[if_pos (show is.length=0\/indB is root=false from .inr g),if_pos];unfold rwell;rw[if_neg h2,if_pos];rw[<-Bool.not_eq_true];intro h;apply h3;rw[List.all_eq_true]at h ⊢;exact fun x f=>zfd (h x f)
end Gr
open Gr
open _root_.Go.Lib (hid)
theorem zlo {sat:Nat} {neg:Bool} {d:List Nat} {e:Int} {s:Gr.Str} {x:Gr.Dn} (h:expS sat neg d e s=some x):x.d.length<=d.length:=by
 unfold expS at h;split at h
 .injection h with h;subst h;exact(zj1 _ _ _).1
 .split at h
  .split at h
   .cases h
   .injection h with h;subst h;exact(zj1 _ _ _).1
  .cases h
theorem zlp {sat:Nat} {neg:Bool} {s:Gr.Str} {x:Gr.Dn} (h:numT sat neg s=some x):x.d.length<=s.length:=by
 have a:=List.takeWhile_append_dropWhile (p:=Gr.dig) (l:=s);have h1:(s.takeWhile Gr.dig).length+(s.dropWhile Gr.dig).length=s.length:=by
  rw[<-List.length_append,a]
 have h2:((s.dropWhile Gr.dig).tail.takeWhile Gr.dig).length<=(s.dropWhile Gr.dig).length:=Nat.le_trans (List.takeWhile_sublist Gr.dig).length_le (by rw[List.length_tail];omega);unfold numT at h;split at h
 .cases h
 .split at h
  .split at h
   .cases h
   .have:=zlo h;rw[zbc,List.length_append]at this;omega
  .have:=zlo h;rw[zbc]at this;omega
theorem ztq {sat:Nat} {s:Gr.Str} {x:Gr.Dn} (h:numS sat s=some x):x.d.length<=s.length:=by
 unfold numS at h;split at h
 .have:=zlp h;rw[List.length_tail]at this;omega
 .exact zlp h
def zb9 (b:Bool) (w:World) (e:Ending) (w':World):Prop:=∃(n:Bool) (A:Option Addr) (l c:Nat) (x:Int),e=.returned (.tuple #[.agg #[.bool n,.slice A l c,.int .i64 x],.bool b])/\Below w.heap.size w w'
theorem zrg (a b:Gr.Str):(a != b)=!decide (a=b):=by
 rw[bne]
 congr 1
 rw[Bool.eq_iff_iff];simp
theorem zrh (s:Gr.Str) (hl:s.length<=268435455) (w:World):
 Calls prog 87 #[.string ⟨s.toArray⟩] w (zb9 (readR s).isSome w):=by
 have Y:=hid (fun W=>zi5 s hl W);cases ho:numS 1000000 s with
 |none=>
  have U:Hid ((readR s).isSome=false):=hid (by unfold readR;rw[ho];rfl);rw[ho]at Y;clear ho;go_enter func87,ntmps87;go_upto_region 1 with fail;obtain⟨K,l⟩:=ex (w.alloc (.cells #[.bool false,.slice none 0 0,.int .i64 0] 131))
  obtain⟨a,k⟩:=ex w.heap.size
  have i:Hid (Blk K a 131 #[.bool false,.slice none 0 0,.int .i64 0]/\Below a w K):=hid (by rw[<-l,<-k];exact⟨Blk.new _ _ _,(Below.refl _ _).alloc (Nat.le_refl _) _⟩);have q:=hid k;(try rw[l]);(try rw[k]);clear l k;go_wp2_with fail;refine(Y.out _).mono ?_;rintro e B ⟨x,v,rfl,⟨A,c,rfl,z⟩,X,G⟩;have n:Hid (Blk B a 131 #[.bool false,.slice none 0 0,.int .i64 0]/\Below a w B):=hid ⟨i.out.1.below G i.out.1.lt,i.out.2.trans (G.mono (Nat.le_of_lt i.out.1.lt))⟩;clear z X G;simp only[Option.isSome_none];have p0:∀j,B.frozen? ⟨a,j,none⟩=false:=n.out.1.frozen;obtain⟨N,P,Q⟩:=cells3 n.out.1;have hlt:a<B.heap.size:=n.out.1.lt;go_wp2_with fail;have b:=(((n.out.1.set_ 0 (.bool false)).set_ 1 (.slice none 0 0)).set_ 2 (.int .i64 0)).alloc (.cells #[.bool x.neg,.slice A x.d.length c,.int .i64 x.e] 131);have e0:=b.cell 0;have e1:=b.cell 1;have e2:=b.cell 2;refine bodyPost_ret (v:=.tuple #[.agg #[.bool false,.slice none 0 0,.int .i64 0],.bool false]) (by rw[results_cell_tmp rfl];go_simp) rfl ?_;unfold zb9;rw[q.out,U.out];exact⟨_,_,_,_,_,rfl,(((n.out.2.setCell (p:=⟨a,0,none⟩) (by simp) _).setCell (p:=⟨a,1,none⟩) (by simp) _).setCell (p:=⟨a,2,none⟩) (by simp) _).alloc (by have:=n.out.1.lt;simp;omega) _⟩
 |some y=>
  have R:=zof ho;have M:=ztq ho;have HY:Hid (Gr.Wf y/\y.d.length<=s.length):=hid ⟨R,M⟩;have H:Hid (readR s=if lim y=0/\Gr.text y=s then some y else none):=hid (by unfold readR;rw[ho]);rw[ho]at Y;clear ho R M;obtain⟨r,hr⟩:=ex ((readR s).isSome)
  have U:=hid hr;rw[hr];clear hr;have C:=hid (fun(A:Option Addr) (c:Nat) (W:World)=>znf y A c (by have:=HY.out.2;omega) W);have S:=hid (fun(A:Option Addr) (c:Nat) (W:World) (h0:lim y=0) (hrow:RowAt intL W W.heap.size A y.d)=>zra y A c (by have:=HY.out.2;omega) HY.out.1.lt (by have:=zel h0;omega) (by have:=zel h0;omega) W hrow);obtain⟨L,hL⟩:∃L:Int,((lim y:Nat):Int)=L:=⟨_,rfl⟩
  have HL:=hid hL;rw[hL]at C;clear hL;go_enter func87,ntmps87;go_upto_region 1 with fail;obtain⟨K,l⟩:=ex (w.alloc (.cells #[.bool false,.slice none 0 0,.int .i64 0] 131))
  obtain⟨a,k⟩:=ex w.heap.size
  have i:Hid (Blk K a 131 #[.bool false,.slice none 0 0,.int .i64 0]/\Below a w K):=hid (by rw[<-l,<-k];exact⟨Blk.new _ _ _,(Below.refl _ _).alloc (Nat.le_refl _) _⟩);have q:=hid k;(try rw[l]);(try rw[k]);clear l k;go_wp2_with fail;refine(Y.out _).mono ?_;rintro e B ⟨x,v,rfl,⟨A,c,rfl,z⟩,X,G⟩;obtain rfl:=X y rfl;obtain⟨A',c',ab,t⟩:=z.form;injection ab with ea en ec
  subst ea ec;simp only[Option.isSome_some];obtain⟨I,D⟩:∃I,I=B.alloc (.cells #[.bool x.neg,.slice A x.d.length c,.int .i64 x.e] 131):=⟨_,rfl⟩
  obtain⟨O,F⟩:=ex B.heap.size
  have g:Hid (Blk I a 131 #[.bool false,.slice none 0 0,.int .i64 0]/\Below a w I/\Blk I O 131 #[.bool x.neg,.slice A x.d.length c,.int .i64 x.e]/\a<O/\RowAt intL I I.heap.size A x.d):=hid (by
   have h1:=i.out.1.below G i.out.1.lt;have h2:Below a w B:=i.out.2.trans (G.mono (Nat.le_of_lt i.out.1.lt));rw[D,<-F];refine⟨h1.alloc _,h2.alloc (Nat.le_of_lt h1.lt) _,Blk.new _ _ _,h1.lt,?_⟩;exact(t.below ((Below.refl _ _).alloc (Nat.le_refl _) _)).more (by simp))
  clear z X G t;go_upto_region 2 with fail;(try rw[<-D]);(try rw[F]);clear D F;obtain⟨N,P,Q⟩:=cells3 g.out.2.2.1;go_wp2_with fail;refine(C.out _ _ _).mono ?_;rintro e J ⟨rfl,o⟩;have f:Hid (Blk J a 131 #[.bool false,.slice none 0 0,.int .i64 0]/\Below a w J/\Blk J O 131 #[.bool x.neg,.slice A x.d.length c,.int .i64 x.e]/\a<O/\RowAt intL J J.heap.size A x.d):=hid ⟨g.out.1.below o g.out.1.lt,g.out.2.1.trans (o.mono (Nat.le_of_lt g.out.1.lt)),g.out.2.2.1.below o g.out.2.2.1.lt,g.out.2.2.2.1,(g.out.2.2.2.2.below o).more o.size⟩;clear o N P Q;obtain⟨N,P,Q⟩:=cells3 f.out.2.2.1;by_cases hL0:L=0
  .subst hL0;have HS:=hid (fun W=>S.out A c W (by have:=HL.out;omega));go_wp2_with fail;refine(HS.out _ f.out.2.2.2.2).mono ?_;rintro e Z ⟨rfl,u⟩;have m:Hid (Blk Z a 131 #[.bool false,.slice none 0 0,.int .i64 0]/\Below a w Z/\Blk Z O 131 #[.bool x.neg,.slice A x.d.length c,.int .i64 x.e]):=hid ⟨f.out.1.below u f.out.1.lt,f.out.2.1.trans (u.mono (Nat.le_of_lt f.out.1.lt)),f.out.2.2.1.below u f.out.2.2.1.lt⟩;clear u N P Q;obtain⟨N,P,Q⟩:=cells3 m.out.2.2;have p0:∀j,Z.frozen? ⟨a,j,none⟩=false:=m.out.1.frozen;obtain⟨k0,k1,k2⟩:=cells3 m.out.1;by_cases ht:Gr.text x=s
   .have T:(Gr.text x==s)=true:=by rw[beq_iff_eq];exact ht
    have E:(Gr.text x != s)=false:=by rw[zrg,decide_eq_true ht];rfl
    have V:Hid (r=true):=hid (by rw[<-U.out,H.out,if_pos ⟨by have:=HL.out;omega,ht⟩];rfl);clear ht;go_wp2_with fail;have b:=((m.out.1.set_ 0 (.bool x.neg)).set_ 1 (.slice A x.d.length c)).set_ 2 (.int .i64 x.e);have e0:=b.cell 0;have e1:=b.cell 1;have e2:=b.cell 2;refine bodyPost_ret (v:=.tuple #[.agg #[.bool x.neg,.slice A x.d.length c,.int .i64 x.e],.bool true]) (by rw[results_cell_tmp rfl];go_simp) rfl ?_;unfold zb9;rw[q.out,V.out];exact⟨_,_,_,_,_,rfl,((m.out.2.1.setCell (p:=⟨a,0,none⟩) (by simp) _).setCell (p:=⟨a,1,none⟩) (by simp) _).setCell (p:=⟨a,2,none⟩) (by simp) _⟩
   .have T:(Gr.text x==s)=false:=by rw[beq_eq_false_iff_ne];exact ht
    have E:(Gr.text x != s)=true:=by rw[zrg,decide_eq_false ht];rfl
    have V:Hid (r=false):=hid (by rw[<-U.out,H.out,if_neg (fun h=>ht h.2)];rfl);clear ht;go_wp2_with fail;have b:=((m.out.1.set_ 0 (.bool false)).set_ 1 (.slice none 0 0)).set_ 2 (.int .i64 0);have e0:=b.cell 0;have e1:=b.cell 1;have e2:=b.cell 2;refine bodyPost_ret (v:=.tuple #[.agg #[.bool false,.slice none 0 0,.int .i64 0],.bool false]) (by rw[results_cell_tmp rfl];go_simp) rfl ?_;unfold zb9;rw[q.out,V.out];exact⟨_,_,_,_,_,rfl,((m.out.2.1.setCell (p:=⟨a,0,none⟩) (by simp) _).setCell (p:=⟨a,1,none⟩) (by simp) _).setCell (p:=⟨a,2,none⟩) (by simp) _⟩
  .have aa:(L==0)=false:=by simpa using hL0
   have hz1:(L != 0)=true:=by rw[bne,aa];rfl
   have V:Hid (r=false):=hid (by rw[<-U.out,H.out,if_neg (fun h=>hL0 (by have:=HL.out;omega))];rfl);have p0:∀j,J.frozen? ⟨a,j,none⟩=false:=f.out.1.frozen;obtain⟨k0,k1,k2⟩:=cells3 f.out.1;go_wp2_with fail;have b:=((f.out.1.set_ 0 (.bool false)).set_ 1 (.slice none 0 0)).set_ 2 (.int .i64 0);have e0:=b.cell 0;have e1:=b.cell 1;have e2:=b.cell 2;refine bodyPost_ret (v:=.tuple #[.agg #[.bool false,.slice none 0 0,.int .i64 0],.bool false]) (by rw[results_cell_tmp rfl];go_simp) rfl ?_;unfold zb9;rw[q.out,V.out];exact⟨_,_,_,_,_,rfl,((f.out.2.1.setCell (p:=⟨a,0,none⟩) (by simp) _).setCell (p:=⟨a,1,none⟩) (by simp) _).setCell (p:=⟨a,2,none⟩) (by simp) _⟩
theorem zi6 (s:Gr.Str) (hl:s.length<=1073741823) (w:World) (hT:UT w):
 Calls prog 36 #[.string ⟨s.toArray⟩] w fun e w'=>e=.returned (.bool (readP s).isSome)/\Below w.heap.size w w':=by
 have a:=hid (zqg s hl w hT);clear hT;obtain⟨r,f⟩:=ex ((readP s).isSome)
 unfold zbv at a;rw[f]at a ⊢;clear f;go_enter func36,ntmps36;go_wp2_with fail;refine a.out.mono ?_;rintro e w2 ⟨x,v,rfl,⟨A,c,rfl,_⟩,_,b⟩;have d:=hid b;clear b;go_wp2;go_ret;exact⟨rfl,d.out.alloc d.out.size _⟩
theorem ztr (text:Gr.Str) (hl:text.length<=1073741823):ScalOk UT 3 text (readP text).isSome:=by
 intro w c;have a:=hid (fun W h=>zi6 text hl W h);have f:=hid c;obtain⟨r,d⟩:=ex ((readP text).isSome)
 rw[d]at a ⊢;clear d c;go_enter func22,ntmps22;go_wp2_with fail;refine(a.out _ f.out).mono ?_;rintro e w2 ⟨rfl,b⟩;have g:=hid b;clear b;go_wp2;go_ret;exact⟨rfl,g.out⟩
theorem zri (text:Gr.Str):ScalOk UT 1 text (decide (text=[116,114,117,101]) || decide (text=[102,97,108,115,101])):=by
 intro w a;clear a;by_cases h1:text=[116,114,117,101]
 .subst h1;go_enter func22,ntmps22;go_wp2;go_ret;exact⟨rfl,Below.refl _ _⟩
 .have hb1:(text==[116,114,117,101])=false:=by rw[beq_eq_false_iff_ne];exact h1
  by_cases h2:text=[102,97,108,115,101]
  .subst h2;go_enter func22,ntmps22;go_wp2;go_ret;exact⟨rfl,Below.refl _ _⟩
  .have hb2:(text==[102,97,108,115,101])=false:=by rw[beq_eq_false_iff_ne];exact h2
   have b:Hid ((decide (text=[116,114,117,101]) || decide (text=[102,97,108,115,101]))=false):=hid (by simp[h1,h2]);go_enter func22,ntmps22;go_wp2;go_ret;rw[b.out];exact⟨rfl,Below.refl _ _⟩
theorem zng (text:Gr.Str):ScalOk UT 6 text true:=by
 intro w a;clear a;go_enter func22,ntmps22;go_wp2;go_ret;exact⟨rfl,Below.refl _ _⟩
theorem zq5 {x:Gr.Mo} (h:MoOk x) (hn:x.time=false->x.nanos=0) (zz:Int) (W:World) (hW:UT W):
 Calls prog 85 #[.agg #[.int .i64 ((moSh x:Nat):Int),.int .i64 (x.y:Int),.int .i64 (x.m:Int),.int .i64 (x.d:Int),.int .i64 (x.h:Int),.int .i64 (x.mi:Int),.int .i64 (x.c:Int),.int .i64 (x.zh:Int),.int .i64 (x.zm:Int),.int .i64 (x.nanos:Int),.int .u8 zz]] W fun e w'=>e=.returned (.string ⟨(locS x).toArray⟩)/\Below W.heap.size W w':=by
 have a:=h.y;have b:=h.m;have c:=h.d;have d:=h.h;have e:=h.mi;have f:=h.c;have g:=h.nanos;rcases h.sh with⟨j,i⟩|⟨j,i,_⟩|⟨j,i,_⟩
 .have:=zqw x.y x.m x.d x.h x.mi x.c x.nanos (x.zh:Int) (x.zm:Int) zz (by omega) (by omega) (by omega) (by omega) (by omega) (by omega) g W hW;unfold locS moSh;rw[j,i];simpa using this
 .have:=zws x.y x.m x.d x.h x.mi x.c x.nanos (x.zh:Int) (x.zm:Int) zz (by omega) (by omega) (by omega) (by omega) (by omega) (by omega) g (hn i) W hW;unfold locS moSh;rw[j,i];simpa using this
 .have:=zwt x.y x.m x.d x.h x.mi x.c x.nanos (x.zh:Int) (x.zm:Int) zz (by omega) (by omega) (by omega) (by omega) (by omega) (by omega) g W hW;unfold locS moSh;rw[j,i];simpa using this
theorem znd (s:Gr.Str) (hl:s.length<=1073741823) (w:World) (hT:UT w):Calls prog 58 #[.string ⟨s.toArray⟩] w (zde (locP s) w):=by
 have HT:=hid hT;clear hT;obtain⟨r,A⟩:=ex (locP s)
 have HR:=hid A;rw[A];clear A;have D:Hid (locP s=match Gr.rd s with|none=>([],3)|some x=>if x.z≠0 then([],3)else if okR x=false then([],13)else(locS x,0)):=hid rfl;cases hrd:Gr.rd s with
 |none=>
  have M:Hid (r=([],3)):=hid (by rw[<-HR.out,D.out,hrd]);have k:=hid (fun W=>zi3 hl hrd W);clear hrd;go_enter func58,ntmps58;go_wp2_with fail;refine(k.out _).mono ?_;rintro e G ⟨a,H,y,m,d,h,mi,c,zh,zm,n,z,rfl⟩;have v:=hid a;clear a;go_wp2;go_ret2;rw[M.out];exact⟨rfl,v.out.alloc v.out.size _⟩
 |some x=>
  have u:=zq1 hrd;have C:=mo_z hrd;have F:=hid (fun W=>zfq hl hrd W);have E:=zq4 u;have q:=hid (fun W=>zfo ((moSh x:Nat):Int) x.y x.m x.d x.h x.mi x.c x.zh x.zm (x.nanos:Int) ((x.z.toNat:Nat):Int) W);rw[E]at q;obtain⟨H,p⟩:=ex (moSh x)
  obtain⟨N,l⟩:∃N:Int,((x.z.toNat:Nat):Int)=N:=⟨_,rfl⟩
  have I:=hid (fun W hW=>zq5 u C.2 N W hW);rw[p]at I;obtain⟨tx,J⟩:=ex (locS x)
  rw[J]at I;have ab:=hid J;have k:=F;have t:=q;rw[p,l]at k t;clear F q J;by_cases hz:x.z=0
  .obtain rfl:0=N:=by rw[<-l,hz];rfl
   have hz0b:((0:Int)==0)=true:=rfl;have hz0c:((0:Int) != 0)=false:=rfl;cases A:okR x with
   |false=>
    have M:Hid (r=([],13)):=hid (by rw[<-HR.out,D.out,hrd];simp only;rw[if_neg (by simp[hz]),if_pos A]);rw[A]at t;clear hrd u C E p l hz A;go_enter func58,ntmps58;go_wp2_with fail;refine(k.out _).mono ?_;rintro e G ⟨rfl,a⟩;go_upto_region 2 with fail;obtain⟨P,i⟩:=ex G.heap.size
    obtain⟨j,f⟩:∃j,j=G.alloc (.cells #[.int .i64 (H:Int),.int .i64 (x.y:Int),.int .i64 (x.m:Int),.int .i64 (x.d:Int),.int .i64 (x.h:Int),.int .i64 (x.mi:Int),.int .i64 (x.c:Int),.int .i64 (x.zh:Int),.int .i64 (x.zm:Int),.int .i64 (x.nanos:Int),.int .u8 0] 94):=⟨_,rfl⟩
    have b:Hid (Blk j P 94 #[.int .i64 (H:Int),.int .i64 (x.y:Int),.int .i64 (x.m:Int),.int .i64 (x.d:Int),.int .i64 (x.h:Int),.int .i64 (x.mi:Int),.int .i64 (x.c:Int),.int .i64 (x.zh:Int),.int .i64 (x.zm:Int),.int .i64 (x.nanos:Int),.int .u8 0]/\Below w.heap.size w j/\UT j):=hid (by
     have O:Below w.heap.size w j:=by rw[f];exact a.alloc a.size _
     exact⟨by rw[f,<-i];exact Blk.new _ _ _,O,UT.stays _ _ HT.out O⟩)
    (try rw[<-f]);(try rw[i]);clear f i a;obtain⟨S,T,U,q3,Y,R,Z,q7,V,X,B⟩:=zaf b.out.1;go_wp2_with fail;refine(t.out _).mono ?_;rintro e L ⟨rfl,g⟩;have o:Hid (Blk L P 94 #[.int .i64 (H:Int),.int .i64 (x.y:Int),.int .i64 (x.m:Int),.int .i64 (x.d:Int),.int .i64 (x.h:Int),.int .i64 (x.mi:Int),.int .i64 (x.c:Int),.int .i64 (x.zh:Int),.int .i64 (x.zm:Int),.int .i64 (x.nanos:Int),.int .u8 0]/\Below w.heap.size w L/\UT L):=hid ⟨b.out.1.below g b.out.1.lt,b.out.2.1.trans (g.mono b.out.2.1.size),UT.stays _ _ b.out.2.2 g⟩;clear g S T U q3 Y R Z q7 V X B;go_wp2;go_ret2;rw[M.out];exact⟨rfl,o.out.2.1⟩
   |true=>
    have M:Hid (r=(tx,0)):=hid (by rw[<-HR.out,D.out,hrd];simp only;rw[if_neg (by simp[hz]),if_neg (by rw[A];decide),ab.out]);rw[A]at t;clear hrd u C E p l hz A;go_enter func58,ntmps58;go_wp2_with fail;refine(k.out _).mono ?_;rintro e G ⟨rfl,a⟩;go_upto_region 2 with fail;obtain⟨P,i⟩:=ex G.heap.size
    obtain⟨j,f⟩:∃j,j=G.alloc (.cells #[.int .i64 (H:Int),.int .i64 (x.y:Int),.int .i64 (x.m:Int),.int .i64 (x.d:Int),.int .i64 (x.h:Int),.int .i64 (x.mi:Int),.int .i64 (x.c:Int),.int .i64 (x.zh:Int),.int .i64 (x.zm:Int),.int .i64 (x.nanos:Int),.int .u8 0] 94):=⟨_,rfl⟩
    have b:Hid (Blk j P 94 #[.int .i64 (H:Int),.int .i64 (x.y:Int),.int .i64 (x.m:Int),.int .i64 (x.d:Int),.int .i64 (x.h:Int),.int .i64 (x.mi:Int),.int .i64 (x.c:Int),.int .i64 (x.zh:Int),.int .i64 (x.zm:Int),.int .i64 (x.nanos:Int),.int .u8 0]/\Below w.heap.size w j/\UT j):=hid (by
     have O:Below w.heap.size w j:=by rw[f];exact a.alloc a.size _
     exact⟨by rw[f,<-i];exact Blk.new _ _ _,O,UT.stays _ _ HT.out O⟩)
    (try rw[<-f]);(try rw[i]);clear f i a;obtain⟨S,T,U,q3,Y,R,Z,q7,V,X,B⟩:=zaf b.out.1;go_wp2_with fail;refine(t.out _).mono ?_;rintro e L ⟨rfl,g⟩;have o:Hid (Blk L P 94 #[.int .i64 (H:Int),.int .i64 (x.y:Int),.int .i64 (x.m:Int),.int .i64 (x.d:Int),.int .i64 (x.h:Int),.int .i64 (x.mi:Int),.int .i64 (x.c:Int),.int .i64 (x.zh:Int),.int .i64 (x.zm:Int),.int .i64 (x.nanos:Int),.int .u8 0]/\Below w.heap.size w L/\UT L):=hid ⟨b.out.1.below g b.out.1.lt,b.out.2.1.trans (g.mono b.out.2.1.size),UT.stays _ _ b.out.2.2 g⟩;clear g S T U q3 Y R Z q7 V X B;go_upto_region 6 with fail;obtain⟨S,T,U,q3,Y,R,Z,q7,V,X,B⟩:=zaf o.out.1;go_wp2_with fail;refine(I.out _ o.out.2.2).mono ?_;rintro e w4 ⟨rfl,Q⟩;have aa:Hid (Below w.heap.size w w4):=hid (o.out.2.1.trans (Q.mono o.out.2.1.size));clear Q;go_wp2;go_ret2;rw[M.out];exact⟨rfl,aa.out⟩
  .have M:Hid (r=([],3)):=hid (by rw[<-HR.out,D.out,hrd];simp only;rw[if_pos hz]);have K:=u8_z hz;rw[l]at K;have hznb:(N==0)=false:=by simpa using K
   have hznc:(N != 0)=true:=by simpa using K
   clear hrd u C E p l hz;go_enter func58,ntmps58;go_wp2_with fail;refine(k.out _).mono ?_;rintro e G ⟨rfl,a⟩;have v:=hid a;clear a;go_wp2;go_ret2;rw[M.out];exact⟨rfl,v.out.alloc v.out.size _⟩
theorem zq6 {s:Gr.Str} (h:Gr.rd s=none):(locP s).2=3:=by unfold locP;rw[h]
theorem zyn {x:Gr.Mo} (h:MoOk x):1<=moSh x:=by
 unfold moSh;rcases h.sh with⟨b,a⟩|⟨b,a,_⟩|⟨b,a,_⟩<;>rw[b,a]<;>decide
theorem zne (s:Gr.Str) (hl:s.length<=1073741823) (w:World) (hT:UT w):
 Calls prog 40 #[.string ⟨s.toArray⟩] w fun e w'=>(∃n:Int,e=.returned (.int .i64 n)/\(n != 0)=locB s)/\Below w.heap.size w w':=by
 have i:=hid (znd s hl w hT);have j:Hid (locB s=decide ((locP s).2=0/\(locP s).1=s)):=hid rfl;obtain⟨r,K⟩:=ex (locB s)
 rw[K]at j ⊢;have B:=hid (fun h=>zq6 (s:=s) h);have c:=hid (fun x (h:Gr.rd s=some x)=>And.intro (fun W=>zfq hl h W) (zq1 h));obtain⟨⟨l,k⟩,H⟩:∃p,locP s=p:=⟨_,rfl⟩
 rw[H]at i j B;obtain⟨A,g⟩:∃A:Int,(k:Int)=A:=⟨_,rfl⟩
 unfold zde at i;simp only[g]at i j;have E:=hid g;clear K H g hT;by_cases h0:A=0
 .subst h0;have y:((0:Int)==0)=true:=rfl;have D:((0:Int) != 0)=false:=rfl;by_cases hs:l=s
  .have f:(l==s)=true:=by rw[beq_iff_eq];exact hs
   have G:(l != s)=false:=by rw[bne,f];rfl
   have C:Hid (r=true):=hid (by rw[j.out];simp[hs];have:=E.out;omega);cases hrd:Gr.rd s with
   |none=>exact absurd (B.out hrd) (by have:=E.out;simp only;omega)
   |some x=>
    obtain⟨q,o⟩:=c.out x hrd;have m:=hid q;have F:=zyn o;obtain⟨sh,d⟩:=ex (moSh x)
    obtain⟨I,v⟩:∃I:Int,((x.z.toNat:Nat):Int)=I:=⟨_,rfl⟩
    rw[d,v]at m;rw[d]at F;clear hs hrd o q d v c B;go_enter func40,ntmps40;go_wp2_with fail;refine i.out.mono ?_;rintro e J ⟨rfl,a⟩;have b:=hid a;clear a;go_wp2_with fail;refine(m.out _).mono ?_;rintro e w2 ⟨rfl,u⟩;have t:=hid (b.out.trans (u.mono b.out.size));clear u;go_wp2;go_ret;exact⟨⟨_,rfl,by rw[C.out];simp;omega⟩,t.out.alloc t.out.size _⟩
  .have f:(l==s)=false:=by rw[beq_eq_false_iff_ne];exact hs
   have G:(l != s)=true:=by rw[bne,f];rfl
   have C:Hid (r=false):=hid (by rw[j.out];simp[hs]);clear hs c B;go_enter func40,ntmps40;go_wp2_with fail;refine i.out.mono ?_;rintro e J ⟨rfl,a⟩;have b:=hid a;clear a;go_wp2;go_ret;exact⟨⟨_,rfl,by rw[C.out];rfl⟩,b.out⟩
 .have y:(A==0)=false:=by simpa using h0
  have D:(A != 0)=true:=by rw[bne,y];rfl
  have C:Hid (r=false):=hid (by rw[j.out];simp;intro e;exact absurd (by have:=E.out;omega) h0);clear c B;go_enter func40,ntmps40;go_wp2_with fail;refine i.out.mono ?_;rintro e J ⟨rfl,a⟩;have b:=hid a;clear a;go_wp2;go_ret;exact⟨⟨_,rfl,by rw[C.out];rfl⟩,b.out⟩
theorem ztm (text:Gr.Str) (hl:text.length<=1073741823):ScalOk UT 8 text (locB text):=by
 intro w f;have b:=hid (zne text hl w f);obtain⟨r,g⟩:=ex (locB text)
 rw[g]at b ⊢;clear g f;go_enter func22,ntmps22;go_wp2_with fail;refine b.out.mono ?_;rintro e w2 ⟨⟨n,rfl,d⟩,c⟩;have h:=hid c;have a:=hid d;clear c d;go_wp2;go_ret;exact⟨by rw[<-a.out];rfl,h.out⟩
theorem ztn (text:Gr.Str) (hl:text.length<=1073741823):ScalOk UT 7 text (insB text):=by
 intro w o;have d:=hid (zi4 text hl w o);have f:Hid (insB text=decide ((insP text).2=0/\(insP text).1=text)):=hid rfl;obtain⟨r,s⟩:=ex (insB text)
 rw[s]at f ⊢;obtain⟨⟨l,k⟩,m⟩:∃p,insP text=p:=⟨_,rfl⟩
 rw[m]at d f;obtain⟨h,c⟩:∃h:Int,(k:Int)=h:=⟨_,rfl⟩
 unfold zde at d;simp only[c]at d f;have q:=hid c;clear s m c o;by_cases h0:h=0
 .subst h0;have i:((0:Int)==0)=true:=rfl;by_cases hs:l=text
  .have j:(l==text)=true:=by rw[beq_iff_eq];exact hs
   have g:Hid (r=true):=hid (by rw[f.out];simp[hs];have:=q.out;omega);clear hs;go_enter func22,ntmps22;go_wp2_with fail;refine d.out.mono ?_;rintro e n ⟨rfl,a⟩;have b:=hid a;clear a;go_wp2;go_ret;rw[g.out];exact⟨rfl,b.out⟩
  .have j:(l==text)=false:=by rw[beq_eq_false_iff_ne];exact hs
   have g:Hid (r=false):=hid (by rw[f.out];simp[hs]);clear hs;go_enter func22,ntmps22;go_wp2_with fail;refine d.out.mono ?_;rintro e n ⟨rfl,a⟩;have b:=hid a;clear a;go_wp2;go_ret;rw[g.out];exact⟨rfl,b.out⟩
 .have i:(h==0)=false:=by simpa using h0
  have g:Hid (r=false):=hid (by rw[f.out];simp;intro e;exact absurd (by have:=q.out;omega) h0);go_enter func22,ntmps22;go_wp2_with fail;refine d.out.mono ?_;rintro e n ⟨rfl,a⟩;have b:=hid a;clear a;go_wp2;go_ret;rw[g.out];exact⟨rfl,b.out⟩
end Go.Proofs.YtpjmhafmeieloaaGreatDoor

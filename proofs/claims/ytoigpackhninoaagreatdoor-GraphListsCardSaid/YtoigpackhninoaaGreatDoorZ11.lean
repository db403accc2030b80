import Derived.Test.YtoigpackhninoaaGreatDoorZ10
namespace Go.Proofs.YtoigpackhninoaaGreatDoor
open _root_.Go.Proofs.Tryz
set_option maxRecDepth 100000
set_option maxHeartbeats 16000000
open Go.RowKit
theorem zih (text:Gr.Str):ScalOk UT 0 text text.isEmpty:=by
 intro w _;have ht:=zgv text;go_enter func42,ntmps42;go_wp2;go_ret;exact⟨rfl,Below.refl _ _⟩
theorem zel (text:Gr.Str) (hl:text.length<=1073741823):ScalOk UT 2 text (Gr.intB text):=by
 intro w _;have b:=Lib.hid (fun W=>zd9 text hl W);obtain⟨r,a⟩:=ex (Gr.intB text)
 rw[a]at b ⊢;clear a;go_enter func42,ntmps42;go_wp2_with fail;refine(b.out _).mono ?_;rintro e w2 ⟨rfl,c⟩;have d:=Lib.hid c;clear c;go_wp2;go_ret;exact⟨rfl,d.out⟩
def utfB (s:Gr.Str):Bool:=(Utf.bad s).isNone
theorem zfd (text:Gr.Str) (hl:text.length<=1073741823):ScalOk UT 5 text (utfB text):=by
 intro w c;have a:=Lib.hid (zgk text hl w c.1 c.2 _ rfl);unfold utfB;cases hr:Utf.bad text with
 |none=>
  rw[hr]at a;unfold ckVal at a;simp only at a;clear hr c;go_enter func42,ntmps42;go_wp2_with fail;refine a.out.mono ?_;rintro e f ⟨rfl,b⟩;have d:=Lib.hid b;clear b;go_wp2;go_ret;exact⟨rfl,d.out⟩
 |some i=>
  rw[hr]at a;unfold ckVal at a;simp only at a;clear hr c;go_enter func42,ntmps42;go_wp2_with fail;refine a.out.mono ?_;rintro e f ⟨rfl,b⟩;have d:=Lib.hid b;clear b;go_wp2;go_ret;exact⟨rfl,d.out⟩
theorem infoIntS:(prog.info? 3).map (·.size)=some 1:=by kernel_rfl
theorem zk8 (l:List Nat):intL.all l=(icells l).toList:=by
 induction l with
 |nil=>rfl
 |cons x l ih=>
  have a:intL.all (x::l)=.int .i64 (x:Int)::intL.all l:=rfl;rw[a,ih];simp[icells]
theorem zqz (W:World) (B g n c:Nat) (A:Option Addr) (l:List Nat) (ty:TypeId) (hl:l.length=n) (hb:Blk W g 3 (icells (List.replicate n 0))) (hr:RowAt intL W B A l):
 ∃W',(Builtin.copy_ #[33,33] ty #[.slice (some ⟨g,0,none⟩) n n,.slice A n c]).run prog W=.ok (.int .i64 n) W'/\Kept1 g W W'/\Blk W' g 3 (icells l):=by
 by_cases h0:n=0
 ·subst h0;obtain rfl:=List.eq_nil_of_length_eq_zero hl;exact⟨W,run_copy_none (P:=prog) W 33 33 ty 3 _ A 0 0 0 c underlying33 infoIntS rfl,Kept1.refl _ _,hb⟩
 ·obtain⟨d,rfl,hlt,h⟩:=hr.2 (by omega);have a:(intL.all l).length=n:=by rw[Lay.all_len];show l.length*1=n;omega
  have b:=run_copy_row (P:=prog) W 33 33 ty 3 g 0 n n d n c (icells (List.replicate n 0)) 3 (intL.all l) underlying33 infoIntS hb (by rw[a];exact(Nat.min_self n).symm) h (by rw[a];simp[icells]) (intL.all_one l);have e:((icells (List.replicate n 0)).toList.take 0++intL.all l++(icells (List.replicate n 0)).toList.drop (0+(intL.all l).length)).toArray=icells l:=by
   rw[a];have:intL.all l=(icells l).toList:=by
    exact zk8 l
   rw[this];simp[icells]
  rw[e,a]at b;exact⟨_,b,⟨rfl,rfl,rfl,size_setRow _ _ _,fun k f=>setRow_other _ _ _ _ f⟩,setRow_heap _ _ _ _ _ _ hb⟩
theorem zq0 (l:List Nat) (f:Nat->Nat) (i:Nat) (h:i<l.length):((l.take i).map f++l.drop i).set i (f l[i])=(l.take (i+1)).map f++l.drop (i+1):=by
 have e:((l.take i).map f).length=i:=by simp;omega
 rw[List.drop_eq_getElem_cons h,List.set_append_right _ _ (by rw[e];exact Nat.le_refl _),e,Nat.sub_self,List.set_cons_zero,zaj _ _ h,List.map_append];simp
theorem zfi (A:Option Addr) (c by_:Nat) (l:List Nat) (hl:l.length<=1073741823) (hx:∀x∈l,x<=1152921504606846976) (hby:by_<=1152921504606846976) (w:World) (B:Nat) (hB:B<=w.heap.size) (h:RowAt intL w B A l):
 Calls prog 83 #[.slice A l.length c,.int .i64 by_] w fun e w'=>e=.returned (.slice (some ⟨w.heap.size,0,none⟩) l.length l.length)/\Below w.heap.size w w'/\Blk w' w.heap.size 3 (icells (l.map (· +by_))):=by
 have hmk:=fun W=>zbz l.length (by omega) W
 obtain⟨s,b⟩:=ex (w.alloc (.cells (icells (List.replicate l.length 0)) 3))
 have u:Below w.heap.size w s:=by rw[<-b];exact(Below.refl _ _).alloc (Nat.le_refl _) _
 have y:Blk s w.heap.size 3 (icells (List.replicate l.length 0)):=by rw[<-b];exact Blk.new _ _ _
 obtain⟨v,t,f,m⟩:=zqz s B w.heap.size l.length c A l 3 rfl y (h.below (u.mono hB));have d:Hid (Below w.heap.size w v/\Blk v w.heap.size 3 (icells l)):=Lib.hid ⟨u.trans (f.below (Nat.le_refl _)),m⟩;clear u y f m h;go_enter func83,ntmps83;go_upto_region 2 with fail;(try rw[b]);clear b;go_upto_region 3 with fail;obtain⟨g,p⟩:=ex w.heap.size
 have C:=Lib.hid p;rw[p]at d;(try rw[p]);clear t p;go_upto_region 4 with fail;go_loopw [15] (fun s15 wr=>∃i:Nat,i<=l.length/\s15=.int .i64 i/\Hid (Below g w wr/\Blk wr g 3 (icells ((l.take i).map (· +by_)++l.drop i)))) (fun s15 _=>l.length-(intOf s15).toNat)
 case atStart=>exact⟨0,by omega,rfl,Lib.hid ⟨d.out.1,by simpa using d.out.2⟩⟩
 case round=>
  obtain⟨i,z,rfl,o⟩:=hrel;by_cases hlt:i<l.length
  ·have n:(i:Int)<(l.length:Int):=by omega
   obtain⟨x,a⟩:=ex (l[i])
   have hxb:x<=1152921504606846976:=by rw[<-a];exact hx _ (List.getElem_mem hlt)
   have k:((l.take i).map (· +by_)++l.drop i).getD i 0=x:=by
    rw[List.getD_eq_getElem?_getD,List.getElem?_append_right (by simp;omega)];simp[Nat.min_eq_left z,List.getElem?_eq_getElem hlt,a]
   have z0:wr.cell? ⟨g,i,none⟩=some (.int .i64 (x:Int)):=by
    rw[o.out.2.cell,zad (by simp;omega),k]
   have zf:∀j,wr.frozen? ⟨g,j,none⟩=false:=o.out.2.frozen;have r:Hid (Below g w (wr.setCell ⟨g,i,none⟩ (.int .i64 ((x:Int)+(by_:Int))))/\Blk (wr.setCell ⟨g,i,none⟩ (.int .i64 ((x:Int)+(by_:Int)))) g 3 (icells ((l.take (i+1)).map (· +by_)++l.drop (i+1)))):=Lib.hid ⟨o.out.1.setCell (by simp) _,by
    have q:=o.out.2.set_ i (.int .i64 ((x+by_:Nat):Int));rw[zau]at q;rw[show(x:Int)+(by_:Int)=((x+by_:Nat):Int)from by omega];have e:=zq0 l (· +by_) i hlt;rw[a]at e;rw[e]at q;exact q⟩
   clear k a;go_wp2;go_roundw
   case rel=>exact⟨i+1,by omega,by go_num,r⟩
   case measure=>simp[intOf];omega
  ·have n:¬(i:Int)<(l.length:Int):=by omega
   have D:Hid (Below g w wr/\Blk wr g 3 (icells (l.map (· +by_)))):=Lib.hid (by
    have:=o.out;rw[show i=l.length from by omega,List.take_length,List.drop_length,List.append_nil]at this;exact this)
   go_wp2;go_ret;rw[C.out];exact⟨rfl,D.out⟩
namespace Gr
open Classical in
noncomputable def wt (sc:Nat->List Nat) (n v:Nat):Nat:=(List.range n).countP (fun i=>decide (Reach sc v i/\Reach sc i v))
structure LongR (sc:Nat->List Nat) (n:Nat) (F:Nat->Nat):Prop where
 up:∀v u,v<n->u<n->Reach sc v u->Reach sc u v->∀x∈sc u,¬Reach sc x v->wt sc n v+F x<=F v
 att:∀v,v<n->F v=wt sc n v\/∃u,u<n/\Reach sc v u/\Reach sc u v/\∃x∈sc u,¬Reach sc x v/\F v=wt sc n v+F x
theorem zqr (sc:Nat->List Nat) (n v:Nat) (h:v<n):0<wt sc n v:=by
 unfold wt;exact List.countP_pos_iff.2 ⟨v,List.mem_range.2 h,by simpa using Reach.refl v⟩
section
variable {ns:List Nd} {root:Nat}
theorem zqs (h:Refs ns) (hr:root<ns.length) (hall:∀v,v<ns.length->Reach (succ ns) root v):
 ∃F:Nat->Nat,LongR (succ ns) ns.length F/\(depth ns root).1=(F root:Int)-1/\((depth ns root).2=true↔∀u,u<ns.length->∀x∈succ ns u,¬Reach (succ ns) x u):=by
 obtain⟨d,q,F,h0,h1,l,s,j,r,h6⟩:=zll h hr hall;have n:∀v,v<ns.length->q v=wt (succ ns) ns.length v:=by
  intro v c;rw[s v c];unfold wt;apply List.countP_congr;intro i p;have:=l i v (List.mem_range.1 p) c;simp only[beq_iff_eq,decide_eq_true_eq];rw[this];exact And.comm
 have m:∀v u x,v<ns.length->u<ns.length->Reach (succ ns) v u->Reach (succ ns) u v->x∈succ ns u->(d x≠d u↔¬Reach (succ ns) x v):=by
  intro v u x c f a b g;have:=l x u (h.succ u x g) f;rw[ne_eq,this];constructor
  ·exact fun k e=>k ⟨e.trans a,.one g⟩
  ·exact fun k e=>k (e.1.trans b)
 refine⟨F,⟨fun v u c f a b x g o=>?_,fun v c=>?_⟩,r,?_⟩
 ·have e:d u=d v:=(l u v f c).2 ⟨b,a⟩;have:=j.up u f x g ((m v u x c f a b g).2 o);rw[j.same u v e,j.szs u v e,n v c]at this;exact this
 ·rcases j.att v c with a|⟨u,f,e,x,g,o,he⟩
  ·exact .inl (a.trans (n v c))
  ·grind
 ·grind
theorem zc7 {u:Nat} (hu:u<ns.length):succ ns u=ns[u].keys++ns[u].items:=by unfold succ;rw[List.getElem?_eq_getElem hu]
theorem zm3 (h:Refs ns) (hr:root<ns.length) (hall:∀v,v<ns.length->Reach (succ ns) root v) (hone:∀x,x<ns.length->mkd (inKeys ns) x=true->(counts ns root).getD x 0=1):
 (∀u,u<ns.length->∀x∈succ ns u,¬Reach (succ ns) x u)↔∀(u:Nat) (hu:u<ns.length),∀x∈ns[u].items,¬Reach (succ ns) x u:=by
 constructor
 ·intro k u hu x a;exact k u hu x (by rw[zc7 hu];exact List.mem_append_right _ a)
 ·intro k u hu x a;have d:=a;rw[zc7 hu]at d;rcases List.mem_append.1 d with hk|hi
  ·intro e;have b:=h.succ u x a;have c:mkd (inKeys ns) x=true:=(zat h x).2 ⟨x,List.mem_flatMap.2 ⟨_,List.getElem_mem hu,hk⟩,.refl _⟩;cases e with
   |refl=>exact zgx h hr hall hone b c a (.refl _)
   |step h1 h2=>exact zgx h hr hall hone b c h1 (h2.trans (.one a))
  ·exact k u hu x hi
end
end Gr
namespace Gr
def rform (sclr:Int->Str->Bool) (n:Nat) (x:Ni):Bool:=
 if(x.items.all (inR n) && x.keys.all (inR n))=false then false
 else if x.kind≠10/\(x.ord=true\/0<x.keys.length)then false
 else if x.kind=9 then x.text.isEmpty
 else if x.kind=10 then x.text.isEmpty && decide (x.keys.length=x.items.length)
 else if x.kind=11 then decide (x.items.length=1) && nameB x.text
 else decide (x.items.length=0) && sclr x.kind x.text
def rnode (ns:List Nd) (root i:Nat):Bool:=mkd (marks ns root) i && !(mkd (inKeys ns) i && (counts ns root).getD i 0 != 1)
def rwell (sclr:Int->Str->Bool) (is:List Ni) (root:Int):Bool:=
 if is.length=0\/inR is.length root=false then false
 else if is.all (rform sclr is.length)=false then false
 else(List.range is.length).all (rnode (is.map Ni.nd) root.toNat)
def rcheck (sclr:Int->Str->Bool) (is:List Ni) (root:Int):Nat:=
 if is.length>4096 then 7 else if rwell sclr is root=false then 3 else if rtwice (is.map Ni.nd) is.length=true then 8 else if(depth (is.map Ni.nd) root.toNat).1>32 then 5 else 0
theorem zjy {α:Type} (l:List α):l.isEmpty=decide (l.length=0):=by cases l<;>rfl
theorem zg7 (sclr:Int->Str->Bool) (n:Nat) (x:Ni) (h:rng n x=true):rform sclr n x=formB sclr x.nd:=by
 have d:(x.items.all (inR n) && x.keys.all (inR n))=true:=by
  unfold rng at h;rw[List.all_append,Bool.and_eq_true]at h;rw[h.1,h.2];rfl
 obtain⟨a,text,c,b,items⟩:=x;unfold rform formB Ni.nd;simp only at d ⊢;rw[d,if_neg (by decide)];simp only[zjy,List.length_map];by_cases h9:a=9
 ·grind
 ·rw[if_neg h9,if_neg h9];by_cases h10:a=10
  ·grind
  ·rw[if_neg h10,if_neg h10];have e:(a≠10/\(c=true\/0<b.length))↔((!c && decide (b.length=0))=false):=by
    grind
   by_cases h11:a=11
   ·grind
   ·grind
theorem zfg {sclr:Int->Str->Bool} {n:Nat} {x:Ni} (h:rform sclr n x=true):rng n x=true:=by
 unfold rform at h;split at h
 ·cases h
 ·rename_i hc;rw[Bool.not_eq_false,Bool.and_eq_true]at hc;unfold rng;rw[List.all_append,hc.1,hc.2];rfl
theorem zm4 {α β:Type} (f:α->β) (p:β->Bool) (l:List α):(l.map f).all p=l.all (fun x=>p (f x)):=by
 grind
theorem zir {sclr:Int->Str->Bool} (hs:∀k t,sclr k t=true->0<=k/\k<=8) {x:Nd} (h:formB sclr x=true):0<=x.kind/\x.kind<=11/\(x.kind=10->x.keys.length=x.items.length):=by
 unfold formB at h;split at h
 ·omega
 ·grind
theorem zqt (ns:List Nd):∀f i,Tall ns f i->Tall' ns f i:=by
 intro f
 induction f with
 |zero=>intro i h;exact h
 |succ f ih=>intro i h x a;exact ih x (h x a)
theorem zfs (ns:List Nd) (p:Nat->Bool) (q:Nd->Bool):(List.range ns.length).all (fun i=>p i && q (ns.getD i ⟨0,[],false,[],[]⟩))=(ns.all q && (List.range ns.length).all p):=by
 rw[Bool.eq_iff_iff,Bool.and_eq_true,List.all_eq_true,List.all_eq_true,List.all_eq_true];constructor
 ·intro h;refine⟨fun x b=>?_,fun i a=>?_⟩
  ·obtain⟨i,a,rfl⟩:=List.mem_iff_getElem.1 b;have:=h i (List.mem_range.2 a);rw[Bool.and_eq_true,List.getD_eq_getElem?_getD,List.getElem?_eq_getElem a]at this;exact this.2
  ·grind
 ·grind
theorem zis (sclr:Int->Str->Bool) (hs:∀k t,sclr k t=true->0<=k/\k<=8) (is:List Ni) (root:Int):rcheck sclr is root=checkI sclr is root:=by
 unfold rcheck checkI;by_cases h1:is.length>4096
 ·rw[if_pos h1,if_pos h1]
 ·rw[if_neg h1,if_neg h1];by_cases h2:is.length=0\/inR is.length root=false
  ·rw[if_pos (show rwell sclr is root=false by unfold rwell;rw[if_pos h2]),if_pos];rcases h2 with h2|h2
   ·exact .inl h2
   ·right;unfold indB;rw[h2];rfl
  ·have c:inR is.length root=true:=by
    grind
   by_cases h3:is.all (rng is.length)=true
   ·have g:indB is root=true:=by unfold indB;rw[c,h3];rfl
    rw[if_neg (show¬(is.length=0\/indB is root=false) by rintro(h|h);exact h2 (.inl h);rw[g]at h;cases h)];obtain⟨_,f⟩:=zbu h3;have l:(is.map Ni.nd).length=is.length:=by simp
    have o:root.toNat<(is.map Ni.nd).length:=by
     rw[l];unfold inR at c;rw[Bool.and_eq_true,decide_eq_true_eq,decide_eq_true_eq]at c;omega
    have d:is.all (rform sclr is.length)=(is.map Ni.nd).all (formB sclr):=by
     rw[zm4,Bool.eq_iff_iff,List.all_eq_true,List.all_eq_true];constructor
     ·intro h x e;rw[<-zg7 sclr is.length x (List.all_eq_true.1 h3 x e)];exact h x e
     ·intro h x e;rw[zg7 sclr is.length x (List.all_eq_true.1 h3 x e)];exact h x e
    have r:rwell sclr is root=((is.map Ni.nd).all (formB sclr) && (List.range is.length).all (rnode (is.map Ni.nd) root.toNat)):=by
     unfold rwell;rw[if_neg h2,d];by_cases hf:(is.map Ni.nd).all (formB sclr)=false
     ·rw[if_pos hf,hf];rfl
     ·grind
    rw[r];clear r d h2;generalize hns:is.map Ni.nd=ns at *;rw[<-l];unfold checkN;rw[zfs];have j:(List.range ns.length).all (rnode ns root.toNat)=((List.range ns.length).all (fun i=>(marks ns root.toNat).getD i false) && !(List.range ns.length).any (fun i=>(inKeys ns).getD i false && (counts ns root.toNat).getD i 0 != 1)):=by
     rw[Bool.eq_iff_iff,Bool.and_eq_true,List.all_eq_true,List.all_eq_true,Bool.not_eq_true',List.any_eq_false];constructor
     ·intro h;refine⟨fun i g=>?_,fun i g=>?_⟩
      ·have:=h i g;unfold rnode at this;rw[Bool.and_eq_true]at this;exact this.1
      ·have:=h i g;unfold rnode at this;rw[Bool.and_eq_true,Bool.not_eq_true']at this;rw[Bool.not_eq_true];exact this.2
     ·rintro⟨a,b⟩ i g;unfold rnode;rw[Bool.and_eq_true,Bool.not_eq_true',<-Bool.not_eq_true];exact⟨a i g,b i g⟩
    rw[j];by_cases hf:ns.all (formB sclr)=true
    ·rw[hf,Bool.true_and,Bool.true_and];by_cases hm:(List.range ns.length).all (fun i=>(marks ns root.toNat).getD i false)=true
     ·rw[hm,Bool.true_and];by_cases hk:(List.range ns.length).any (fun i=>(inKeys ns).getD i false && (counts ns root.toNat).getD i 0 != 1)=true
      ·rw[hk];simp
      ·rw[Bool.not_eq_true]at hk;rw[hk];simp only[Bool.not_false,Bool.true_eq_false,if_false,Bool.false_eq_true,not_true];have m:∀v,v<ns.length->Reach (succ ns) root.toNat v:=fun v u=>(zbb f o v).1 (List.all_eq_true.1 hm v (List.mem_range.2 u))
       have n:∀x,x<ns.length->mkd (inKeys ns) x=true->(counts ns root.toNat).getD x 0=1:=by
        intro x e p;have:=List.any_eq_false.1 hk x (List.mem_range.2 e);unfold mkd at p;rw[p,Bool.true_and]at this;simpa using this
       have q:NodesOk ns:=fun x e=>zir hs (List.all_eq_true.1 hf x e)
       have s:∀k∈allKeys ns,TOk ns ns.length k:=fun k hk=>by
        obtain⟨a,b⟩:=ze3 f o m n k hk;exact⟨a,zqt ns _ _ b⟩
       rw[ztj q f ns.length s]
     ·grind
    ·grind
   ·have g:indB is root=false:=by
     rw[Bool.not_eq_true]at h3;unfold indB;rw[h3,Bool.and_false]
    rw[if_pos (show is.length=0\/indB is root=false from .inr g),if_pos];unfold rwell;rw[if_neg h2,if_pos];rw[<-Bool.not_eq_true];intro h;apply h3;rw[List.all_eq_true]at h ⊢;exact fun x e=>zfg (h x e)
end Gr
open Gr
open _root_.Go.Lib (hid)
theorem zp3 {x:Gr.Mo} (h:MoOk x) (hn:x.time=false->x.nanos=0) (zz:Int) (W:World) (hW:UT W):
 Calls prog 128 #[.agg #[.int .i64 ((moSh x:Nat):Int),.int .i64 (x.y:Int),.int .i64 (x.m:Int),.int .i64 (x.d:Int),.int .i64 (x.h:Int),.int .i64 (x.mi:Int),.int .i64 (x.c:Int),.int .i64 (x.zh:Int),.int .i64 (x.zm:Int),.int .i64 (x.nanos:Int),.int .u8 zz]] W fun e w'=>e=.returned (.string ⟨(locS x).toArray⟩)/\Below W.heap.size W w':=by
 have a:=h.y;have b:=h.m;have c:=h.d;have d:=h.h;have e:=h.mi;have f:=h.c;have g:=h.nanos;rcases h.sh with⟨j,i⟩|⟨j,i,_⟩|⟨j,i,_⟩
 ·have:=zpu x.y x.m x.d x.h x.mi x.c x.nanos (x.zh:Int) (x.zm:Int) zz (by omega) (by omega) (by omega) (by omega) (by omega) (by omega) g W hW;unfold locS moSh;rw[j,i];simpa using this
 ·have:=zvy x.y x.m x.d x.h x.mi x.c x.nanos (x.zh:Int) (x.zm:Int) zz (by omega) (by omega) (by omega) (by omega) (by omega) (by omega) g (hn i) W hW;unfold locS moSh;rw[j,i];simpa using this
 ·have:=zvz x.y x.m x.d x.h x.mi x.c x.nanos (x.zh:Int) (x.zm:Int) zz (by omega) (by omega) (by omega) (by omega) (by omega) (by omega) g W hW;unfold locS moSh;rw[j,i];simpa using this
theorem zmm (s:Gr.Str) (hl:s.length<=1073741823) (w:World) (hT:UT w):Calls prog 96 #[.string ⟨s.toArray⟩] w (zc3 (locP s) w):=by
 have HT:=hid hT;clear hT;obtain⟨r,A⟩:=ex (locP s)
 have T:=hid A;rw[A];clear A;have E:Hid (locP s=match Gr.rd s with|none=>([],3)|some x=>if x.z≠0 then([],3)else if okR x=false then([],13)else(locS x,0)):=hid rfl;cases hrd:Gr.rd s with
 |none=>
  have J:Hid (r=([],3)):=hid (by rw[<-T.out,E.out,hrd]);have l:=hid (fun W=>zib hl hrd W);clear hrd;go_enter func96,ntmps96;go_wp2_with fail;refine(l.out _).mono ?_;rintro e K ⟨a,L,y,m,d,h,mi,c,zh,zm,n,z,rfl⟩;have q:=hid a;clear a;go_wp2;go_ret2;rw[J.out];exact⟨rfl,q.out.alloc q.out.size _⟩
 |some x=>
  have p:=zpz hrd;have C:=mo_z hrd;have F:=hid (fun W=>zfa hl hrd W);have B:=zp2 p;have u:=hid (fun W=>ze8 ((moSh x:Nat):Int) x.y x.m x.d x.h x.mi x.c x.zh x.zm (x.nanos:Int) ((x.z.toNat:Nat):Int) W);rw[B]at u;obtain⟨L,t⟩:=ex (moSh x)
  obtain⟨N,o⟩:∃N:Int,((x.z.toNat:Nat):Int)=N:=⟨_,rfl⟩
  have H:=hid (fun W hW=>zp3 p C.2 N W hW);rw[t]at H;obtain⟨tx,I⟩:=ex (locS x)
  rw[I]at H;have ab:=hid I;have l:=F;have v:=u;rw[t,o]at l v;clear F u I;by_cases hz:x.z=0
  ·obtain rfl:0=N:=by rw[<-o,hz];rfl
   have hz0b:((0:Int)==0)=true:=rfl;have hz0c:((0:Int) != 0)=false:=rfl;cases A:okR x with
   |false=>
    have J:Hid (r=([],13)):=hid (by rw[<-T.out,E.out,hrd];simp only;rw[if_neg (by simp[hz]),if_pos A]);rw[A]at v;clear hrd p C B t o hz A;go_enter func96,ntmps96;go_wp2_with fail;refine(l.out _).mono ?_;rintro e K ⟨rfl,a⟩;go_upto_region 2 with fail;obtain⟨Q,i⟩:=ex K.heap.size
    obtain⟨j,f⟩:∃j,j=K.alloc (.cells #[.int .i64 (L:Int),.int .i64 (x.y:Int),.int .i64 (x.m:Int),.int .i64 (x.d:Int),.int .i64 (x.h:Int),.int .i64 (x.mi:Int),.int .i64 (x.c:Int),.int .i64 (x.zh:Int),.int .i64 (x.zm:Int),.int .i64 (x.nanos:Int),.int .u8 0] 135):=⟨_,rfl⟩
    have b:Hid (Blk j Q 135 #[.int .i64 (L:Int),.int .i64 (x.y:Int),.int .i64 (x.m:Int),.int .i64 (x.d:Int),.int .i64 (x.h:Int),.int .i64 (x.mi:Int),.int .i64 (x.c:Int),.int .i64 (x.zh:Int),.int .i64 (x.zm:Int),.int .i64 (x.nanos:Int),.int .u8 0]/\Below w.heap.size w j/\UT j):=hid (by
     have P:Below w.heap.size w j:=by rw[f];exact a.alloc a.size _
     exact⟨by rw[f,<-i];exact Blk.new _ _ _,P,UT.stays _ _ HT.out P⟩)
    (try rw[<-f]);(try rw[i]);clear f i a;obtain⟨S,q1,R,Z,V,X,Y,q7,q8,U,D⟩:=zaf b.out.1;go_wp2_with fail;refine(v.out _).mono ?_;rintro e G ⟨rfl,g⟩;have k:Hid (Blk G Q 135 #[.int .i64 (L:Int),.int .i64 (x.y:Int),.int .i64 (x.m:Int),.int .i64 (x.d:Int),.int .i64 (x.h:Int),.int .i64 (x.mi:Int),.int .i64 (x.c:Int),.int .i64 (x.zh:Int),.int .i64 (x.zm:Int),.int .i64 (x.nanos:Int),.int .u8 0]/\Below w.heap.size w G/\UT G):=hid ⟨b.out.1.below g b.out.1.lt,b.out.2.1.trans (g.mono b.out.2.1.size),UT.stays _ _ b.out.2.2 g⟩;clear g S q1 R Z V X Y q7 q8 U D;go_wp2;go_ret2;rw[J.out];exact⟨rfl,k.out.2.1⟩
   |true=>
    have J:Hid (r=(tx,0)):=hid (by rw[<-T.out,E.out,hrd];simp only;rw[if_neg (by simp[hz]),if_neg (by rw[A];decide),ab.out]);rw[A]at v;clear hrd p C B t o hz A;go_enter func96,ntmps96;go_wp2_with fail;refine(l.out _).mono ?_;rintro e K ⟨rfl,a⟩;go_upto_region 2 with fail;obtain⟨Q,i⟩:=ex K.heap.size
    obtain⟨j,f⟩:∃j,j=K.alloc (.cells #[.int .i64 (L:Int),.int .i64 (x.y:Int),.int .i64 (x.m:Int),.int .i64 (x.d:Int),.int .i64 (x.h:Int),.int .i64 (x.mi:Int),.int .i64 (x.c:Int),.int .i64 (x.zh:Int),.int .i64 (x.zm:Int),.int .i64 (x.nanos:Int),.int .u8 0] 135):=⟨_,rfl⟩
    have b:Hid (Blk j Q 135 #[.int .i64 (L:Int),.int .i64 (x.y:Int),.int .i64 (x.m:Int),.int .i64 (x.d:Int),.int .i64 (x.h:Int),.int .i64 (x.mi:Int),.int .i64 (x.c:Int),.int .i64 (x.zh:Int),.int .i64 (x.zm:Int),.int .i64 (x.nanos:Int),.int .u8 0]/\Below w.heap.size w j/\UT j):=hid (by
     have P:Below w.heap.size w j:=by rw[f];exact a.alloc a.size _
     exact⟨by rw[f,<-i];exact Blk.new _ _ _,P,UT.stays _ _ HT.out P⟩)
    (try rw[<-f]);(try rw[i]);clear f i a;obtain⟨S,q1,R,Z,V,X,Y,q7,q8,U,D⟩:=zaf b.out.1;go_wp2_with fail;refine(v.out _).mono ?_;rintro e G ⟨rfl,g⟩;have k:Hid (Blk G Q 135 #[.int .i64 (L:Int),.int .i64 (x.y:Int),.int .i64 (x.m:Int),.int .i64 (x.d:Int),.int .i64 (x.h:Int),.int .i64 (x.mi:Int),.int .i64 (x.c:Int),.int .i64 (x.zh:Int),.int .i64 (x.zm:Int),.int .i64 (x.nanos:Int),.int .u8 0]/\Below w.heap.size w G/\UT G):=hid ⟨b.out.1.below g b.out.1.lt,b.out.2.1.trans (g.mono b.out.2.1.size),UT.stays _ _ b.out.2.2 g⟩;clear g S q1 R Z V X Y q7 q8 U D;go_upto_region 6 with fail;obtain⟨S,q1,R,Z,V,X,Y,q7,q8,U,D⟩:=zaf k.out.1;go_wp2_with fail;refine(H.out _ k.out.2.2).mono ?_;rintro e w4 ⟨rfl,O⟩;have aa:Hid (Below w.heap.size w w4):=hid (k.out.2.1.trans (O.mono k.out.2.1.size));clear O;go_wp2;go_ret2;rw[J.out];exact⟨rfl,aa.out⟩
  ·have J:Hid (r=([],3)):=hid (by rw[<-T.out,E.out,hrd];simp only;rw[if_pos hz]);have M:=u8_z hz;rw[o]at M;have hznb:(N==0)=false:=by simpa using M
   have hznc:(N != 0)=true:=by simpa using M
   clear hrd p C B t o hz;go_enter func96,ntmps96;go_wp2_with fail;refine(l.out _).mono ?_;rintro e K ⟨rfl,a⟩;have q:=hid a;clear a;go_wp2;go_ret2;rw[J.out];exact⟨rfl,q.out.alloc q.out.size _⟩
theorem zp4 {s:Gr.Str} (h:Gr.rd s=none):(locP s).2=3:=by unfold locP;rw[h]
theorem zxy {x:Gr.Mo} (h:MoOk x):1<=moSh x:=by
 unfold moSh;rcases h.sh with⟨a,b⟩|⟨a,b,_⟩|⟨a,b,_⟩<;>rw[a,b]<;>decide
theorem zmn (s:Gr.Str) (hl:s.length<=1073741823) (w:World) (hT:UT w):
 Calls prog 74 #[.string ⟨s.toArray⟩] w fun e w'=>(∃n:Int,e=.returned (.int .i64 n)/\(n != 0)=locB s)/\Below w.heap.size w w':=by
 have i:=hid (zmm s hl w hT);have j:Hid (locB s=decide ((locP s).2=0/\(locP s).1=s)):=hid rfl;obtain⟨r,I⟩:=ex (locB s)
 rw[I]at j ⊢;have y:=hid (fun h=>zp4 (s:=s) h);have c:=hid (fun x (h:Gr.rd s=some x)=>And.intro (fun W=>zfa hl h W) (zpz h));obtain⟨⟨l,k⟩,J⟩:∃p,locP s=p:=⟨_,rfl⟩
 rw[J]at i j y;obtain⟨q,g⟩:∃q:Int,(k:Int)=q:=⟨_,rfl⟩
 unfold zc3 at i;simp only[g]at i j;have E:=hid g;clear I J g hT;by_cases h0:q=0
 ·subst h0;have t:((0:Int)==0)=true:=rfl;have D:((0:Int) != 0)=false:=rfl;by_cases hs:l=s
  ·have d:(l==s)=true:=by rw[beq_iff_eq];exact hs
   have F:(l != s)=false:=by rw[bne,d];rfl
   have u:Hid (r=true):=hid (by rw[j.out];simp[hs];have:=E.out;omega);cases hrd:Gr.rd s with
   |none=>exact absurd (y.out hrd) (by have:=E.out;simp only;omega)
   |some x=>
    obtain⟨v,o⟩:=c.out x hrd;have C:=hid v;have G:=zxy o;obtain⟨sh,f⟩:=ex (moSh x)
    obtain⟨K,A⟩:∃K:Int,((x.z.toNat:Nat):Int)=K:=⟨_,rfl⟩
    rw[f,A]at C;rw[f]at G;clear hs hrd o v f A c y;go_enter func74,ntmps74;go_wp2_with fail;refine i.out.mono ?_;rintro e H ⟨rfl,a⟩;have b:=hid a;clear a;go_wp2_with fail;refine(C.out _).mono ?_;rintro e w2 ⟨rfl,m⟩;have B:=hid (b.out.trans (m.mono b.out.size));clear m;go_wp2;go_ret;exact⟨⟨_,rfl,by rw[u.out];simp;omega⟩,B.out.alloc B.out.size _⟩
  ·have d:(l==s)=false:=by rw[beq_eq_false_iff_ne];exact hs
   have F:(l != s)=true:=by rw[bne,d];rfl
   have u:Hid (r=false):=hid (by rw[j.out];simp[hs]);clear hs c y;go_enter func74,ntmps74;go_wp2_with fail;refine i.out.mono ?_;rintro e H ⟨rfl,a⟩;have b:=hid a;clear a;go_wp2;go_ret;exact⟨⟨_,rfl,by rw[u.out];rfl⟩,b.out⟩
 ·have t:(q==0)=false:=by simpa using h0
  have D:(q != 0)=true:=by rw[bne,t];rfl
  have u:Hid (r=false):=hid (by rw[j.out];simp;intro e;exact absurd (by have:=E.out;omega) h0);clear c y;go_enter func74,ntmps74;go_wp2_with fail;refine i.out.mono ?_;rintro e H ⟨rfl,a⟩;have b:=hid a;clear a;go_wp2;go_ret;exact⟨⟨_,rfl,by rw[u.out];rfl⟩,b.out⟩
theorem zs6 (text:Gr.Str) (hl:text.length<=1073741823):ScalOk UT 8 text (locB text):=by
 intro w f;have d:=hid (zmn text hl w f);obtain⟨r,b⟩:=ex (locB text)
 rw[b]at d ⊢;clear b f;go_enter func42,ntmps42;go_wp2_with fail;refine d.out.mono ?_;rintro e w2 ⟨⟨n,rfl,c⟩,g⟩;have h:=hid g;have a:=hid c;clear g c;go_wp2;go_ret;exact⟨by rw[<-a.out];rfl,h.out⟩
theorem zs7 (text:Gr.Str) (hl:text.length<=1073741823):ScalOk UT 7 text (insB text):=by
 intro w o;have d:=hid (zic text hl w o);have f:Hid (insB text=decide ((insP text).2=0/\(insP text).1=text)):=hid rfl;obtain⟨r,m⟩:=ex (insB text)
 rw[m]at f ⊢;obtain⟨⟨l,k⟩,n⟩:∃p,insP text=p:=⟨_,rfl⟩
 rw[n]at d f;obtain⟨h,c⟩:∃h:Int,(k:Int)=h:=⟨_,rfl⟩
 unfold zc3 at d;simp only[c]at d f;have s:=hid c;clear m n c o;by_cases h0:h=0
 ·subst h0;have i:((0:Int)==0)=true:=rfl;by_cases hs:l=text
  ·have j:(l==text)=true:=by rw[beq_iff_eq];exact hs
   have g:Hid (r=true):=hid (by rw[f.out];simp[hs];have:=s.out;omega);clear hs;go_enter func42,ntmps42;go_wp2_with fail;refine d.out.mono ?_;rintro e q ⟨rfl,a⟩;have b:=hid a;clear a;go_wp2;go_ret;rw[g.out];exact⟨rfl,b.out⟩
  ·have j:(l==text)=false:=by rw[beq_eq_false_iff_ne];exact hs
   have g:Hid (r=false):=hid (by rw[f.out];simp[hs]);clear hs;go_enter func42,ntmps42;go_wp2_with fail;refine d.out.mono ?_;rintro e q ⟨rfl,a⟩;have b:=hid a;clear a;go_wp2;go_ret;rw[g.out];exact⟨rfl,b.out⟩
 ·have i:(h==0)=false:=by simpa using h0
  have g:Hid (r=false):=hid (by rw[f.out];simp;intro e;exact absurd (by have:=s.out;omega) h0);go_enter func42,ntmps42;go_wp2_with fail;refine d.out.mono ?_;rintro e q ⟨rfl,a⟩;have b:=hid a;clear a;go_wp2;go_ret;rw[g.out];exact⟨rfl,b.out⟩
end Go.Proofs.YtoigpackhninoaaGreatDoor

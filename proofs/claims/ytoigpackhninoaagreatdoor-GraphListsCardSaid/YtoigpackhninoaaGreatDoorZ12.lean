import Derived.Test.YtoigpackhninoaaGreatDoorZ11
import Derived.Lib.LaidU8T
import Derived.PinnedBridge
import Derived.Lay
import Derived.Deep.DeepWitnessRowRef
namespace Go.Proofs.YtoigpackhninoaaGreatDoor
open Go.RowKit
def KeptT (t:TypeId) (w w':World):Prop:=∀g cs,Blk w g t cs->Blk w' g t cs
theorem KeptT.refl (t:TypeId) (w:World):KeptT t w w:=fun _ _ h=>h
theorem KeptT.trans {t:TypeId} {a b c:World} (h:KeptT t a b) (k:KeptT t b c):KeptT t a c:=fun g d x=>k g d (h g d x)
theorem KeptT.later {t:TypeId} {w w':World} (h:Below w.heap.size w w'):KeptT t w w':=fun _ _ x=>x.below h x.lt
theorem KeptT.alloc (t:TypeId) (w:World) (o:Obj):KeptT t w (w.alloc o):=fun _ _ x=>x.alloc o
theorem KeptT.setCell {t t':TypeId} {w:World} {p:Addr} {cs:Array Value} (h:Blk w p.block t' cs) (hne:t≠t') (u:Value):KeptT t w (w.setCell p u):=
 fun _ _ x=>x.far (fun e=>by subst e;exact Blk.ne_ x h hne rfl) u
theorem KeptT.grown {t t':TypeId} {w w':World} {v:Value} {base:Nat} {size n:Nat} {xs:List Value} (hg:w.grownBy w' v.ownBlock) (h:w.ownsRow base t' size v n xs) (hne:t'≠t):KeptT t w w':=
 fun _ _ x=>x.grown hg (fun e=>zbw h x hne e.symm)
section
variable {α:Type} {L:Lay α} {w w':World} {B base:Nat} {E:TypeId} {v:Value} {l:List α}
theorem OwnRow.kept (h:OwnRow L w base E v l) (hk:KeptT E w w'):OwnRow L w' base E v l:=by
 refine⟨h.1,?_⟩;rcases h.2 with hn|⟨g,cap,cur,rfl,hbg,hgg,rest⟩
 ·exact .inl hn
 ·exact .inr ⟨g,cap,cur,rfl,hbg,hk g cur hgg,rest⟩
theorem OwnRow.grown_other (h:OwnRow L w base E v l) {row:Option Nat} (hg:w.grownBy w' row) (hne:∀g,v.ownBlock=some g->row≠some g):OwnRow L w' base E v l:=by
 refine⟨h.1,?_⟩;rcases h.2 with hn|⟨g,cap,cur,rfl,hbg,hgg,rest⟩
 ·exact .inl hn
 ·refine .inr ⟨g,cap,cur,rfl,hbg,?_,rest⟩;rw[hg.block g (Blk.lt (t:=E) (cs:=cur) hgg) (fun e=>hne g (by simp[Value.ownBlock]) e.symm)];exact hgg
theorem OwnRow.row (h:OwnRow L w base E v l) (hl:l≠[]):
 ∃g cap rest,v=.slice (some ⟨g,0,none⟩) l.length cap/\l.length<=cap/\Blk w g E (L.all l++rest).toArray/\base<=g/\(∀w' l',l'.length=l.length->Blk w' g E (L.all l'++rest).toArray->OwnRow L w' base E v l'):=by
 rcases h.2 with⟨_,hn⟩|⟨g,cap,c,f,d,j,i,m,hcs,htk⟩
 ·grind
 ·have hcl:=L.all_len l;have a:c=(L.all l++c.toList.drop (l.length*L.sz)).toArray:=by
   grind
  have hle:l.length*L.sz<=cap*L.sz:=Nat.mul_le_mul_right _ i;refine⟨g,cap,c.toList.drop (l.length*L.sz),f,i,?_,d,fun w' l' e k=>?_⟩
  ·unfold Blk;rw[<-a];exact j
  ·have b:=L.all_len l';refine⟨b,.inr ⟨g,cap,_,by rw[e];exact f,d,k,by omega,m,?_,?_⟩⟩
   ·simp only[List.size_toArray,List.length_append,List.length_drop,Array.length_toList];rw[e]at b;omega
   ·simp only;rw[List.take_append_of_le_length (by omega),List.take_of_length_le (by omega)]
end
theorem ztl {α:Type} (L:Lay α) (l:List α) (k j:Nat) (x:α) (u:Value) (hk:k<l.length) (hj:j<L.sz) (he:L.enc x=(L.enc l[k]).set j u):L.all (l.set k x)=(L.all l).set (k*L.sz+j) u:=by
 induction l generalizing k with
 |nil=>simp at hk
 |cons y l ih=>
  cases k with
  |zero=>
   have a:L.all (x::l)=L.enc x++L.all l:=rfl;have b:L.all (y::l)=L.enc y++L.all l:=rfl;simp only[List.getElem_cons_zero]at he;simp only[List.set_cons_zero,Nat.zero_mul,Nat.zero_add];rw[a,b,he,List.set_append_left _ _ (by rw[L.len];exact hj)]
  |succ k=>
   have a:L.all (y::l.set k x)=L.enc y++L.all (l.set k x):=rfl;have b:L.all (y::l)=L.enc y++L.all l:=rfl;rw[List.set_cons_succ,a,b,ih k (by simpa using hk) (by simpa using he)];rw[List.set_append_right _ _ (by rw[L.len,Nat.add_mul];omega),L.len];rw[show(k+1)*L.sz+j-L.sz=k*L.sz+j from by rw[Nat.add_mul];omega]
theorem zct {α:Type} (L:Lay α) {w:World} {g:Nat} {E:TypeId} {l:List α} {rest:List Value} (h:Blk w g E (L.all l++rest).toArray) (k j:Nat) (x:α) (u:Value) (hk:k<l.length) (hj:j<L.sz) (he:L.enc x=(L.enc l[k]).set j u):
 Blk (w.setCell ⟨g,k*L.sz+j,none⟩ u) g E (L.all (l.set k x)++rest).toArray:=by
 have hl:=L.all_len l;have h2:k*L.sz+L.sz<=l.length*L.sz:=by
  have:(k+1)*L.sz<=l.length*L.sz:=Nat.mul_le_mul_right _ hk;rw[Nat.add_mul]at this;omega
 have a:=h.set_ (k*L.sz+j) u;have e:(L.all l++rest).toArray.setIfInBounds (k*L.sz+j) u=(L.all (l.set k x)++rest).toArray:=by
  apply Array.ext';rw[Array.toList_setIfInBounds,ztl L l k j x u hk hj he];exact List.set_append_left _ _ (by omega)
 rw[e]at a;exact a
theorem zm5 {w:World} {g:Nat} {l:List NV} {rest:List Value} (h:Blk w g 35 (nodeL.all l++rest).toArray) (k:Nat) (hk:k<l.length) (x:NV):
 Blk (((((w.setCell ⟨g,k*5,none⟩ (.int .i64 x.kind)).setCell ⟨g,k*5+1,none⟩ (.string ⟨x.text.toArray⟩)).setCell ⟨g,k*5+2,none⟩ (.bool x.ord)).setCell ⟨g,k*5+3,none⟩ x.k.v).setCell ⟨g,k*5+4,none⟩ x.i.v) g 35 (nodeL.all (l.set k x)++rest).toArray:=by
 obtain⟨y,c⟩:=ex (l[k])
 have e:=zct nodeL h k 0 ⟨x.kind,y.text,y.ord,y.k,y.i⟩ (.int .i64 x.kind) hk (by decide) (by rw[c];rfl);have b:=zct nodeL e k 1 ⟨x.kind,x.text,y.ord,y.k,y.i⟩ (.string ⟨x.text.toArray⟩) (by simpa using hk) (by decide) (by rw[List.getElem_set_self];rfl);have f:=zct nodeL b k 2 ⟨x.kind,x.text,x.ord,y.k,y.i⟩ (.bool x.ord) (by simpa using hk) (by decide) (by rw[List.getElem_set_self];rfl);have d:=zct nodeL f k 3 ⟨x.kind,x.text,x.ord,x.k,y.i⟩ x.k.v (by simpa using hk) (by decide) (by rw[List.getElem_set_self];rfl);have a:=zct nodeL d k 4 x x.i.v (by simpa using hk) (by decide) (by rw[List.getElem_set_self];rfl);simp only[List.set_set]at a;exact a
theorem zm6 {w:World} {g:Nat} {l:List NV} {rest:List Value} (h:Blk w g 35 (nodeL.all l++rest).toArray) (k:Nat) (hk:k<l.length) (i:SV):
 Blk (w.setCell ⟨g,k*5+4,none⟩ i.v) g 35 (nodeL.all (l.set k {l[k]with i:=i})++rest).toArray:=
 zct nodeL h k 4 {l[k]with i:=i} i.v hk (by decide) rfl
def ints (vs:List NV) (j:Nat) (b:Bool):SV:=match vs[j]? with
 |some x=>if b then x.i else x.k
 |none=>SV.nil
def intsOf (ns:List Gr.Nd) (j:Nat) (b:Bool):List Nat:=match ns[j]? with
 |some m=>if b then m.items else m.keys
 |none=>[]
structure Rows (B:Nat) (w:World) (vs:List NV) (ns:List Gr.Nd):Prop where
 len:vs.length=ns.length
 kind:∀j (h:j<vs.length) (h2:j<ns.length),vs[j].kind=ns[j].kind/\vs[j].text=ns[j].text/\vs[j].ord=ns[j].ord
 own:∀j b,OwnRow intL w B 3 (ints vs j b).v (intsOf ns j b)
 apart:∀j b j' b' g,(ints vs j b).v.ownBlock=some g->(ints vs j' b').v.ownBlock=some g->j=j'/\b=b'
theorem Rows.kept {B:Nat} {w w':World} {vs:List NV} {ns:List Gr.Nd} (h:Rows B w vs ns) (hk:KeptT 3 w w'):Rows B w' vs ns:=
 ⟨h.len,h.kind,fun j b=>(h.own j b).kept hk,h.apart⟩
theorem ziu (vs:List NV) (x:NV) (j:Nat) (b:Bool):ints (vs++[x]) j b=if j=vs.length then(if b then x.i else x.k)else ints vs j b:=by
 unfold ints;by_cases hj:j<vs.length
 ·grind
 ·grind
theorem zj0 (ns:List Gr.Nd) (x:Gr.Nd) (j:Nat) (b:Bool):intsOf (ns++[x]) j b=if j=ns.length then(if b then x.items else x.keys)else intsOf ns j b:=by
 unfold intsOf;by_cases hj:j<ns.length
 ·grind
 ·grind
theorem Rows.snoc {B:Nat} {w:World} {vs:List NV} {ns:List Gr.Nd} (h:Rows B w vs ns) (x:NV) (m:Gr.Nd) (hx:x.kind=m.kind/\x.text=m.text/\x.ord=m.ord) (ok:OwnRow intL w B 3 x.k.v m.keys) (oi:OwnRow intL w B 3 x.i.v m.items)
 (hki:∀g,x.k.v.ownBlock=some g->x.i.v.ownBlock=some g->False) (hold:∀j b g,(ints vs j b).v.ownBlock=some g->x.k.v.ownBlock≠some g/\x.i.v.ownBlock≠some g):Rows B w (vs++[x]) (ns++[m]):=by
 have a:=h.len;refine⟨by simp[a],?_,?_,?_⟩
 ·intro j d c;by_cases hj:j<vs.length
  ·rw[List.getElem_append_left hj,List.getElem_append_left (by omega)];exact h.kind j hj (by omega)
  ·grind
 ·intro j b;rw[ziu,zj0,<-a];by_cases hj:j=vs.length
  ·grind
  ·rw[if_neg hj,if_neg hj];exact h.own j b
 ·intro j b e f g d c;rw[ziu]at d c;by_cases hj:j=vs.length
  ·grind
  ·rw[if_neg hj]at d;by_cases hj':e=vs.length
   ·grind
   ·rw[if_neg hj']at c;exact h.apart j b e f g d c
theorem Rows.grow {B:Nat} {w w':World} {vs:List NV} {ns:List Gr.Nd} (h:Rows B w vs ns) (j:Nat) (b:Bool) (x:NV) (m:Gr.Nd) (hj:j<vs.length)
 (hx:x.kind=vs[j].kind/\x.text=vs[j].text/\x.ord=vs[j].ord) (hm:m.kind=(ns[j]'(by rw[<-h.len];exact hj)).kind/\m.text=(ns[j]'(by rw[<-h.len];exact hj)).text/\m.ord=(ns[j]'(by rw[<-h.len];exact hj)).ord)
 (hb:(if b then x.k else x.i)=ints vs j (!b)) (hbm:(if b then m.keys else m.items)=intsOf ns j (!b))
 (hown:OwnRow intL w' B 3 (if b then x.i else x.k).v (if b then m.items else m.keys)) (hg:w.grownBy w' (ints vs j b).v.ownBlock)
 (hat:(if b then x.i else x.k).v.ownBlock=(ints vs j b).v.ownBlock\/(if b then x.i else x.k).v.ownBlock=some w.heap.size):Rows B w' (vs.set j x) (ns.set j m):=by
 have d:=h.len;have f:j<ns.length:=by omega
 have e1:∀j' b',ints (vs.set j x) j' b'=if j'=j then(if b' then x.i else x.k)else ints vs j' b':=by
  intro j' b';unfold ints;by_cases he:j'=j
  ·grind
  ·grind
 have e2:∀j' b',intsOf (ns.set j m) j' b'=if j'=j then(if b' then m.items else m.keys)else intsOf ns j' b':=by
  intro j' b';unfold intsOf;by_cases he:j'=j
  ·grind
  ·grind
 have e:∀j' b',¬(j'=j/\b'=b)->ints (vs.set j x) j' b'=ints vs j' b'/\intsOf (ns.set j m) j' b'=intsOf ns j' b':=by
  grind
 refine⟨by simp[d],?_,?_,?_⟩
 ·intro j' c a;by_cases he:j=j'
  ·subst he;rw[List.getElem_set_self,List.getElem_set_self];have:=h.kind j hj f;exact⟨by rw[hx.1,hm.1,this.1],by rw[hx.2.1,hm.2.1,this.2.1],by rw[hx.2.2,hm.2.2,this.2.2]⟩
  ·rw[List.getElem_set_ne he,List.getElem_set_ne he];exact h.kind j' (by simpa using c) (by simpa using a)
 ·intro j' b';by_cases hc:j'=j/\b'=b
  ·grind
  ·rw[(e j' b' hc).1,(e j' b' hc).2];exact(h.own j' b').grown_other hg (fun g r q=>hc (h.apart j' b' j b g r q))
 ·have hnew:∀j' b' g,¬(j'=j/\b'=b)->(ints vs j' b').v.ownBlock=some g->(if b then x.i else x.k).v.ownBlock=some g->False:=by
   intro j' b' g hc c a;rcases hat with h3|h3
   ·rw[h3]at a;exact hc (h.apart j' b' j b g c a)
   ·rw[h3]at a;injection a with a
    have:=(h.own j' b').lt g c;omega
  intro s p o n g c a;by_cases hc1:s=j/\p=b
  ·grind
  ·rw[(e s p hc1).1]at c;by_cases hc2:o=j/\n=b
   ·grind
   ·rw[(e o n hc2).1]at a;exact h.apart s p o n g c a
theorem Rows.later {B:Nat} {w w':World} {vs:List NV} {ns:List Gr.Nd} (h:Rows B w vs ns) (hb:Below w.heap.size w w'):Rows B w' vs ns:=h.kept (KeptT.later hb)
theorem Rows.nil (B:Nat) (w:World):Rows B w [] []:=
 ⟨rfl,fun j h=>by simp at h,fun j b=>by simp[ints,intsOf,SV.nil,SV.v];exact OwnRow.nil,fun j b j' b' g h=>by simp[ints,SV.nil,SV.v,Value.ownBlock]at h⟩
structure Tab (B:Nat) (w:World) (v:Value) (vs:List NV) (ns:List Gr.Nd):Prop where
 row:OwnRow nodeL w B 35 v vs
 rows:Rows B w vs ns
theorem Tab.later {B:Nat} {w w':World} {v:Value} {vs:List NV} {ns:List Gr.Nd} (h:Tab B w v vs ns) (hb:Below w.heap.size w w'):Tab B w' v vs ns:=⟨h.row.later hb,h.rows.later hb⟩
theorem SV.row {w:World} {B:Nat} {x:SV} {l:List Nat} (h:OwnRow intL w B 3 x.v l):RowAt intL w w.heap.size x.a l/\x.n=l.length:=by
 obtain⟨A,c,b,d⟩:=h.form;unfold SV.v at b;injection b with e1 e2 e3
 subst e1;exact⟨d,e2⟩
theorem Tab.at_ {B:Nat} {w:World} {v:Value} {vs:List NV} {ns:List Gr.Nd} (h:Tab B w v vs ns):∃A c,v=.slice A ns.length c/\GAt w w.heap.size A vs ns:=by
 obtain⟨A,c,g,f⟩:=h.row.form;refine⟨A,c,by rw[g,h.rows.len],f,h.rows.len,h.rows.kind,fun j e d=>?_⟩;have m:(ints vs j false)=vs[j].k:=by unfold ints;rw[List.getElem?_eq_getElem e];rfl
 have p:(ints vs j true)=vs[j].i:=by unfold ints;rw[List.getElem?_eq_getElem e];rfl
 have o:(intsOf ns j false)=ns[j].keys:=by unfold intsOf;rw[List.getElem?_eq_getElem d];rfl
 have n:(intsOf ns j true)=ns[j].items:=by unfold intsOf;rw[List.getElem?_eq_getElem d];rfl
 have a:=h.rows.own j false;have b:=h.rows.own j true;rw[m,o]at a;rw[p,n]at b;exact⟨(SV.row a).1,(SV.row a).2,(SV.row b).1,(SV.row b).2⟩
open Gr
open _root_.Go.Proofs.Tryz
open _root_.Go.Lib (hid)
set_option maxRecDepth 100000
set_option maxHeartbeats 16000000
namespace Gr
def shN (d:Nat) (x:Nd):Nd:=⟨x.kind,x.text,x.ord,x.keys.map (· +d),x.items.map (· +d)⟩
end Gr
open Go.RowKit
theorem zd3 {w:World} {B g n:Nat} {l:List Nat} (h:Blk w g 3 (icells l)) (hB:B<=g) (hn:l.length=n) (hm:n<=maxLen):OwnRow intL w B 3 (.slice (some ⟨g,0,none⟩) n n) l:=by
 subst hn;refine⟨intL.all_len l,.inr ⟨g,l.length,icells l,rfl,hB,h,Nat.le_refl _,hm,by simp[icells,intL],?_⟩⟩;rw[<-zk8,List.take_of_length_le (by rw[intL.all_len];exact Nat.le_refl _)]
structure ShBox (w wx:World) (nb:Nat) (n:Gr.Nd) (d g1 g2:Nat):Prop where
 box:Blk wx nb 35 #[.int .i64 n.kind,.string ⟨n.text.toArray⟩,.bool n.ord,.slice (some ⟨g1,0,none⟩) n.keys.length n.keys.length,.slice (some ⟨g2,0,none⟩) n.items.length n.items.length]
 b1:Blk wx g1 3 (icells (n.keys.map (· +d)))
 b2:Blk wx g2 3 (icells (n.items.map (· +d)))
 lo1:w.heap.size<=g1
 lo2:w.heap.size<=g2
 ne_:g1≠g2
 below:Below w.heap.size w wx
def ztm (B:Nat) (r:Int) (ms:List Gr.Nd) (w:World) (e:Ending) (w':World):Prop:=∃v' vs',e=.returned (.tuple #[v',.int .i64 r])/\Tab B w' v' vs' ms/\Below B w w'
theorem ziv (B:Nat) (A:Option Addr) (c root:Nat) (us:List NV) (gs:List Gr.Nd) (v:Value) (vs:List NV) (ns:List Gr.Nd) (hgl:gs.length<=1073741823) (hnl:ns.length+gs.length<=1073741823) (hks:NH gs) (hrb:Refs gs) (hroot:root<gs.length) (w:World) (h:GAt w B A us gs) (hv:Tab B w v vs ns) (hB:B<=w.heap.size):
 Calls prog 49 #[v,.agg #[.slice A gs.length c,.int .i64 root]] w (ztm B ((root:Int)+(ns.length:Int)) (ns++gs.map (shN ns.length)) w):=by
 obtain⟨A0,c0,rfl,aM⟩:=hv.at_;obtain⟨d,hd⟩:=ex ns.length
 have HD:=hid hd;obtain⟨r,J⟩:=ex (w.alloc (.cells #[.slice A gs.length c,.int .i64 root] 24))
 have l1:Below w.heap.size w r:=by rw[<-J];exact(Below.refl _ _).alloc (Nat.le_refl _) _
 have b1:Blk r w.heap.size 24 #[.slice A gs.length c,.int .i64 root]:=by rw[<-J];exact Blk.new _ _ _
 obtain⟨gb,U⟩:=ex w.heap.size
 have aB:Hid (B<=r.heap.size):=hid (Nat.le_trans hB l1.size);have ax:Hid (Below B w r):=hid (l1.mono hB);have av:=hid (hv.later l1);have X:=hid (h.below (l1.mono hB));have hdl:d+gs.length<=1073741823:=by omega
 rw[U]at b1;rw[hd]at av;have az:=hid b1;have g0:r.cell? ⟨gb,0,none⟩=some (.slice A gs.length c):=b1.cell 0;clear hv aM l1 b1 h hB;go_enter func49,ntmps49;go_upto_region 1 with fail;(try rw[J]);(try rw[U]);(try rw[hd]);clear J U hd;go_upto_region 3 with fail;clear g0;go_loopw [0,14] (fun s0 s14 wr=>∃(j:Nat) (A1:Option Addr) (c1:Nat) (vs1:List NV),j<=gs.length/\s14=.int .i64 j/\s0=.slice A1 (d+j) c1/\Hid (Tab B wr (.slice A1 (d+j) c1) vs1 (ns++(gs.take j).map (shN d))/\Below B r wr/\KeptT 24 r wr/\r.heap.size<=wr.heap.size)) (fun _ s14 _=>gs.length-(intOf s14).toNat)
 case atStart=>exact⟨0,A0,c0,vs,by omega,rfl,rfl,hid ⟨by simpa using av.out,Below.refl _ _,KeptT.refl _ _,Nat.le_refl _⟩⟩
 case round=>
  obtain⟨j,A1,c1,vs1,hj,rfl,rfl,E⟩:=hrel;obtain⟨b,aL⟩:∃b,b=wr:=⟨_,rfl⟩
  subst aL;by_cases hlt:j<gs.length
  ·have ac:(j:Int)<(gs.length:Int):=by omega
   obtain⟨ad,ks,is,rfl,C⟩:=(X.out.below E.out.2.1).node hlt;obtain⟨V,kn,kc⟩:=ks;obtain⟨S,aF,ic⟩:=is;have Q:gs[j]∈gs:=List.getElem_mem hlt;obtain⟨ai,ap,aH⟩:=hks _ Q;have I:=hrb _ Q;obtain⟨n,hn⟩:=ex (gs[j])
   have aN:Hid ((gs.take (j+1)).map (shN d)=(gs.take j).map (shN d)++[shN d n]):=hid (by rw[List.take_succ_eq_append_getElem hlt,List.map_append,hn];rfl);rw[hn]at C ai ap aH I;obtain rfl:kn=n.keys.length:=C.kn;obtain rfl:aF=n.items.length:=C.inn;have x0:=C.c0;have x1:=C.c1;have x2:=C.c2;have x3:=C.c3;have x4:=C.c4;have af:Hid (RowAt intL b B V n.keys/\RowAt intL b B S n.items):=hid ⟨C.keys,C.items⟩;have a:Hid (B<=b.heap.size):=hid (Nat.le_trans aB.out E.out.2.2.2);have ag:Hid ((∀x∈n.keys,x<=1152921504606846976)/\(∀x∈n.items,x<=1152921504606846976)):=hid ⟨fun x hx=>by have:=I x (List.mem_append_left _ hx);omega,fun x hx=>by have:=I x (List.mem_append_right _ hx);omega⟩;clear C Q hn I;go_upto_region 5 with fail;obtain⟨k,t⟩:=ex (b.alloc (.cells #[.int .i64 n.kind,.string ⟨n.text.toArray⟩,.bool n.ord,.slice V n.keys.length kc,.slice S n.items.length ic] 35))
   obtain⟨l,p⟩:=ex b.heap.size
   have s:Blk k l 35 #[.int .i64 n.kind,.string ⟨n.text.toArray⟩,.bool n.ord,.slice V n.keys.length kc,.slice S n.items.length ic]:=by rw[<-t,<-p];exact Blk.new _ _ _
   have l5:Below l b k:=by rw[<-t,<-p];exact(Below.refl _ _).alloc (Nat.le_refl _) _
   have ae:k.heap.size=l+1:=by rw[<-t,<-p];simp
   rw[t];(try rw[p]);have Y:=hid l5;have ao:=hid s;have f:Hid (k.heap.size=l+1/\b.heap.size=l):=hid ⟨ae,p⟩;have y3:k.cell? ⟨l,3,none⟩=some (.slice V n.keys.length kc):=s.cell 3;have y4:k.cell? ⟨l,4,none⟩=some (.slice S n.items.length ic):=s.cell 4;have yf:∀i,k.frozen? ⟨l,i,none⟩=false:=s.frozen;have HY:Hid (∀W,Below k.heap.size k W->W.cell? ⟨l,3,none⟩=some (.slice V n.keys.length kc)/\W.cell? ⟨l,4,none⟩=some (.slice S n.items.length ic)/\∀i,W.frozen? ⟨l,i,none⟩=false):=hid (fun W D=>⟨(s.below D s.lt).cell 3,(s.below D s.lt).cell 4,(s.below D s.lt).frozen⟩);clear t p s l5 ae x0 x1 x2 x3 x4;have aE:Hid (∀W,Below k.heap.size k W->Calls prog 83 #[.slice V n.keys.length kc,.int .i64 d] W fun e F=>Below k.heap.size k F/\Below W.heap.size W F/\∃g,g=W.heap.size/\e=.returned (.slice (some ⟨g,0,none⟩) n.keys.length n.keys.length)/\Blk F g 3 (icells (n.keys.map (· +d)))):=hid (fun W D=>by
    have hb:Below B b W:=(Y.out.mono (by have:=f.out;have:=a.out;omega)).trans (D.mono (by have:=f.out;have:=a.out;omega));refine(zfi V kc d n.keys ai ag.out.1 (by omega) W B (by have:=hb.size;have:=a.out;omega) (af.out.1.below hb)).mono ?_;rintro e F ⟨rfl,h1,h2⟩;exact⟨D.trans (h1.mono D.size),h1,_,rfl,rfl,h2⟩)
   have aO:Hid (∀W,Below k.heap.size k W->Calls prog 83 #[.slice S n.items.length ic,.int .i64 d] W fun e F=>Below k.heap.size k F/\Below W.heap.size W F/\∃g,g=W.heap.size/\e=.returned (.slice (some ⟨g,0,none⟩) n.items.length n.items.length)/\Blk F g 3 (icells (n.items.map (· +d)))):=hid (fun W D=>by
    have hb:Below B b W:=(Y.out.mono (by have:=f.out;have:=a.out;omega)).trans (D.mono (by have:=f.out;have:=a.out;omega));refine(zfi S ic d n.items ap ag.out.2 (by omega) W B (by have:=hb.size;have:=a.out;omega) (af.out.2.below hb)).mono ?_;rintro e F ⟨rfl,h1,h2⟩;exact⟨D.trans (h1.mono D.size),h1,_,rfl,rfl,h2⟩)
   go_cut [8] (fun s8 wx=>s8=.pointer (some ⟨l,0,none⟩)/\∃g1 g2 wy,wy=wx/\Hid (ShBox b wy l n d g1 g2))
   case first=>
    go_region_with ((first
     | (go_at_call 83;(with_reducible refine(aE.out _ ?_).mono ?_);(first|assumption|exact Below.refl _ _|exact(Below.refl _ _).drew|exact Below.drew (by assumption));rintro e1 aC ⟨aJ,hc1,g1,ak,rfl,q⟩;obtain⟨q13,q14,q1f⟩:=HY.out aC aJ;have X:=hid ak;clear ak)
     | (go_at_call 83;(with_reducible refine(aO.out _ ?_).mono ?_);(first|assumption|exact Below.refl _ _|exact(Below.refl _ _).drew|exact Below.drew (by assumption));rintro e2 aG ⟨T,aA,g2,aq,rfl,aw⟩;obtain⟨q23,q24,q2f⟩:=HY.out aG T;have aD:=hid aq;clear aq)))
    all_goals
     go_wp2;go_meet;have e1:g1=l+1:=by have:=X.out;have h2:=f.out;rw[show k.drew.heap.size=k.heap.size from rfl]at this;omega
     have e2:g1<g2:=by have:=aD.out;have:=q.lt;omega
     refine⟨rfl,g1,g2,_,rfl,hid ⟨((ao.out.below T ao.out.lt).set_ 3 _).set_ 4 _,((q.below aA q.lt).far (by simp;omega) _).far (by simp;omega) _,(aw.far (by simp;omega) _).far (by simp;omega) _,by have:=f.out;omega,by have:=f.out;omega,by omega,?_⟩⟩;have hw:b.heap.size=l:=f.out.2;rw[hw];exact((Y.out.trans (T.mono (by have:=f.out;omega))).setCell (by simp) _).setCell (by simp) _
   case rest=>
    obtain⟨rfl,g1,g2,K,rfl,G⟩:=hcut;obtain⟨z0,z1,z2,z3,z4⟩:=cells5 G.out.box;have R:Below b.heap.size b K:=G.out.below;have Z:=hid (E.out.1.later R);have an:b.heap.size<K.heap.size:=by have:=G.out.b2.lt;have:=G.out.lo2;omega
    obtain⟨x,aj⟩:∃x:NV,x=⟨n.kind,n.text,n.ord,⟨some ⟨g1,0,none⟩,n.keys.length,n.keys.length⟩,⟨some ⟨g2,0,none⟩,n.items.length,n.items.length⟩⟩:=⟨_,rfl⟩
    have z:=Z.out.row;have al:vs1.length=d+j:=by
     have:=Z.out.rows.len;rw[this,List.length_append,List.length_map,List.length_take,HD.out];omega
    have m:Hid (OwnRow nodeL K B 35 (.slice A1 (d+j) c1) vs1):=hid z;have aa:=hid al;have u:Hid (B<=K.heap.size):=hid (by have:=a.out;omega);have o:=hid aj;have ar:=hid R;have ay:=hid an;clear z al aj R an y3 y4 yf;go_wp2_with (at_builtin;go_must (refine zab _ rfl (.tmp 28) (.tmp 30) 22 35 80 rfl nodeT B (.slice A1 (d+j) c1) vs1 rfl (m.out.alloc _) _ _ 1 [x] rfl (RowAt.lit1 _ _ (by rw[o.out];rfl) _ ?_) ?_ ?_ ?_))
    any_goals (first|rfl| (have:=aa.out;have:=u.out;simp;omega))
    intro v' M y hg aK;obtain⟨A2,c2,am,_⟩:=y.form;have ah:(vs1++[x]).length=d+(j+1):=by rw[List.length_append,aa.out];rfl
    rw[ah]at am;subst am;have H:KeptT 3 K M:=(KeptT.alloc _ _ _).trans (KeptT.grown hg (m.out.alloc _) (by decide));have au:KeptT 24 K M:=(KeptT.alloc _ _ _).trans (KeptT.grown hg (m.out.alloc _) (by decide));have P:Below B K M:=((Below.refl B K).alloc u.out _).trans ((m.out.alloc _).grown_below hg (by rw[World.size_alloc];have:=u.out;omega));have ab:b.heap.size<=g1/\b.heap.size<=g2:=⟨G.out.lo1,G.out.lo2⟩
    have N:Tab B M (.slice A2 (d+(j+1)) c2) (vs1++[x]) (ns++(gs.take (j+1)).map (shN d)):=by
     rw[aN.out,<-List.append_assoc];refine⟨y,(Z.out.rows.kept H).snoc x (shN d n) (by rw[o.out];exact⟨rfl,rfl,rfl⟩) ?_ ?_ ?_ ?_⟩
     ·rw[o.out];exact zd3 (H _ _ G.out.b1) (by have:=a.out;omega) (by simp[shN]) (by simp only[maxLen];omega)
     ·rw[o.out];exact zd3 (H _ _ G.out.b2) (by have:=a.out;omega) (by simp[shN]) (by simp only[maxLen];omega)
     ·intro g e1 e2;rw[o.out]at e1 e2;simp[SV.v,Value.ownBlock]at e1 e2;have:=G.out.ne_;omega
     ·intro j' b' g e1;have:=((E.out.1.rows.own j' b').lt g e1).2;rw[o.out];constructor<;>(intro e2;simp[SV.v,Value.ownBlock]at e2;omega)
    have aI:Hid (Tab B M (.slice A2 (d+(j+1)) c2) (vs1++[x]) (ns++(gs.take (j+1)).map (shN d))/\Below B r M/\KeptT 24 r M/\r.heap.size<=M.heap.size):=hid ⟨N,(E.out.2.1.trans (ar.out.mono a.out)).trans P,(E.out.2.2.1.trans (KeptT.later ar.out)).trans au,by have:=E.out.2.2.2;have:=ay.out;have:=P.size;omega⟩;clear y hg aK ah H au P N ab z0 z1 z2 z3 z4;go_wp2;go_roundw
    case rel=>exact⟨j+1,A2,c2,vs1++[x],by omega,by go_num,rfl,aI⟩
    case measure=>simp[intOf];omega
  ·have ac:¬(j:Int)<(gs.length:Int):=by omega
   have O:j=gs.length:=by omega
   have L:Hid (Tab B b (.slice A1 (d+j) c1) vs1 (ns++gs.map (shN d))/\Below B w b):=hid ⟨by
    have:=E.out.1;rwa[O,List.take_length,<-O]at this,ax.out.trans E.out.2.1⟩
   clear O;have g1:b.cell? ⟨gb,1,none⟩=some (.int .i64 root):=(E.out.2.2.1 _ _ az.out).cell 1;have hdd:d<=1073741823:=by omega
   have hrr:root<=1073741823:=by omega
   go_upto_region 8 with fail;go_quiet (fail);go_wp2;go_ret2;rw[HD.out];exact⟨_,vs1,rfl,L.out.1.later (below_drewN (Below.refl _ _) _),below_drewN L.out.2 _⟩
namespace Gr
def Nd.ni (x:Nd):Ni:=⟨x.kind,x.text,x.ord,x.keys.map Int.ofNat,x.items.map Int.ofNat⟩
theorem zyk (x:Nd):x.ni.nd=x:=by
 cases x;simp[Nd.ni,Ni.nd,Function.comp_def]
theorem zix (ns:List Nd):(ns.map Nd.ni).map Ni.nd=ns:=by
 rw[List.map_map]
 conv=>rhs;rw[<-List.map_id ns]
 exact List.map_congr_left (fun x _=>zyk x)
theorem zq1 (ns:List Nd) (root:Nat) (hr:Refs ns) (hroot:root<ns.length):indB (ns.map Nd.ni) (root:Int)=true:=by
 unfold indB inR;simp only[List.length_map,Bool.and_eq_true,decide_eq_true_eq];refine⟨⟨by omega,by omega⟩,?_⟩;rw[List.all_map,List.all_eq_true];intro x a;show rng ns.length x.ni=true;unfold rng;rw[show x.ni.keys++x.ni.items=(x.keys++x.items).map Int.ofNat from by simp[Nd.ni],List.all_map,List.all_eq_true];intro y b;have:=hr x a y b;simp[inR];omega
end Gr
open Go.RowKit
theorem zwk (l:List Nat):intI.all (l.map Int.ofNat)=intL.all l:=by
 induction l with
 |nil=>rfl
 |cons x l ih=>
  have a:intI.all (Int.ofNat x::l.map Int.ofNat)=intI.enc (Int.ofNat x)++intI.all (l.map Int.ofNat):=rfl;have b:intL.all (x::l)=intL.enc x++intL.all l:=rfl;rw[List.map_cons,a,b,ih];rfl
theorem zfj {w:World} {B:Nat} {A:Option Addr} {l:List Nat} (h:RowAt intL w B A l):RowAt intI w B A (l.map Int.ofNat):=by
 unfold RowAt at h ⊢;rw[zwk,List.length_map];exact h
theorem GAt.toI {w:World} {B:Nat} {A:Option Addr} {vs:List NV} {ns:List Gr.Nd} (h:GAt w B A vs ns):IAt w B A vs (ns.map Gr.Nd.ni):=by
 refine⟨h.row,by simp[h.len],fun j f e=>?_,fun j f e=>?_⟩
 ·rw[List.length_map]at e;rw[List.getElem_map];exact h.kind j f e
 ·rw[List.length_map]at e;rw[List.getElem_map];obtain⟨a,b,c,d⟩:=h.nums j f e;exact⟨zfj a,by rw[b];simp[Gr.Nd.ni],zfj c,by rw[d];simp[Gr.Nd.ni]⟩
def checkG (sclr:Int->Gr.Str->Bool) (ns:List Gr.Nd) (root:Nat):Nat:=if ns.length>4096 then 7 else checkN sclr ns root
theorem zq2 (T:World->Prop) (hT:Stays T) (sclr:Int->Gr.Str->Bool) (A:Option Addr) (c root:Nat) (vs:List NV) (ns:List Gr.Nd) (hks:NH ns) (hsc:ScalsOk T sclr ns) (hl:ns.length<=1073741823) (hr:Refs ns) (hroot:root<ns.length) (w:World) (hTw:T w) (h:GAt w w.heap.size A vs ns):
 Calls prog 14 #[.agg #[.slice A ns.length c,.int .i64 root]] w fun e w'=>e=.returned (.int .i64 (checkG sclr ns root:Nat))/\Below w.heap.size w w':=by
 have:=ze4 T hT sclr A c (root:Int) vs (ns.map Gr.Nd.ni) (by rw[zix];exact hks) (by rw[zix];exact hsc) (by simpa using hl) w hTw h.toI;rw[List.length_map]at this;have e:checkI sclr (ns.map Gr.Nd.ni) (root:Int)=checkG sclr ns root:=by
  unfold checkI checkG;rw[List.length_map,zix,zq1 ns root hr hroot];by_cases h1:ns.length>4096
  ·rw[if_pos h1,if_pos h1]
  ·rw[if_neg h1,if_neg h1,if_neg (by simp;intro e;rw[e]at hroot;simp at hroot),Int.toNat_natCast]
 rw[e]at this;exact this
def ChkOk (w:World) (g:Value) (chk:Nat):Prop:=∀W,Below w.heap.size w W->Calls prog 14 #[g] W fun e w'=>e=.returned (.int .i64 (chk:Nat))/\Below W.heap.size W w'
theorem ChkOk.later {w w':World} {g:Value} {chk:Nat} (h:ChkOk w g chk) (hb:Below w.heap.size w w'):ChkOk w' g chk:=fun W a=>h W (hb.trans (a.mono hb.size))
def gZero:Value:=.agg #[.slice none 0 0,.int .i64 0]
theorem zj1 (A:Option Addr) (n c:Nat) (root:Int) (chk:Nat) (w:World) (h:ChkOk w (.agg #[.slice A n c,.int .i64 root]) chk):
 Calls prog 50 #[.agg #[.slice A n c,.int .i64 root]] w fun e w'=>e=.returned (.tuple #[if chk=0 then .agg #[.slice A n c,.int .i64 root]else gZero,.int .i64 (chk:Nat)])/\Below w.heap.size w w':=by
 have C:=hid h;clear h;go_enter func50,ntmps50;go_upto_region 1 with fail;obtain⟨m,b⟩:=ex ((w.alloc (.cells #[.slice A n c,.int .i64 root] 24)).alloc (.cells #[.slice none 0 0,.int .i64 0] 24))
 obtain⟨o,a⟩:=ex w.heap.size
 have s:Blk m o 24 #[.slice A n c,.int .i64 root]:=by rw[<-b,<-a];exact(Blk.new _ _ _).alloc _
 have y:Blk m (o+1) 24 #[.slice none 0 0,.int .i64 0]:=by rw[<-b,<-a];have:=Blk.new (w.alloc (.cells #[.slice A n c,.int .i64 root] 24)) 24 #[.slice none 0 0,.int .i64 0];rwa[World.size_alloc]at this
 have u:Below o w m:=by rw[<-b,<-a];exact((Below.refl _ _).alloc (Nat.le_refl _) _).alloc (by simp) _
 have r:=hid u;have j:=hid a;have t:Hid (ChkOk m (.agg #[.slice A n c,.int .i64 root]) chk):=hid (C.out.later (by rw[a];exact u));have g:=hid s;have p:=hid y;obtain⟨B,z⟩:=cells2 s;(try rw[b]);(try rw[a]);clear b a s y u;go_wp2_with fail;refine(t.out m (Below.refl _ _)).mono ?_;rintro e x ⟨rfl,d⟩;have q:=g.out.below d g.out.lt;have f:=p.out.below d p.out.lt;have l:Hid (Below o w x):=hid (r.out.trans (d.mono (by have:=g.out.lt;omega)));obtain⟨k0,k1⟩:=cells2 q;obtain⟨d0,d1⟩:=cells2 f;have df:∀i,x.frozen? ⟨o+1,i,none⟩=false:=f.frozen;have k:=hid f;clear d q f B z;by_cases h0:chk=0
 ·subst h0;go_wp2_with fail;have e0:=((k.out.set_ 0 (.slice A n c)).set_ 1 (.int .i64 root)).cell 0;have e1:=((k.out.set_ 0 (.slice A n c)).set_ 1 (.int .i64 root)).cell 1;refine bodyPost_ret (v:=.tuple #[.agg #[.slice A n c,.int .i64 root],.int .i64 0]) (by rw[results_cell_tmp rfl];go_simp) rfl ⟨rfl,?_⟩;rw[j.out];exact(l.out.setCell (by simp) _).setCell (by simp) _
 ·have h0I:((chk:Int)==0)=false:=by rw[beq_eq_false_iff_ne];omega
  go_wp2_with fail;refine bodyPost_ret (v:=.tuple #[gZero,.int .i64 chk]) (by rw[results_cell_tmp rfl];go_simp;rfl) rfl ⟨by first|rfl|rw[if_neg h0],?_⟩;rw[j.out];exact(l.out.setCell (by simp) _).setCell (by simp) _
theorem ztn (A:Option Addr) (n c:Nat) (root:Int) (chk:Nat) (w:World) (h:ChkOk w (.agg #[.slice A n c,.int .i64 root]) chk):
 Calls prog 21 #[.agg #[.slice A n c,.int .i64 root]] w fun e w'=>e=.returned (.int .i64 (if chk=0 then(n:Int)else 0))/\Below w.heap.size w w':=by
 obtain⟨j,a⟩:=ex (w.alloc (.cells #[.slice A n c,.int .i64 root] 24))
 have l:Below w.heap.size w j:=by rw[<-a];exact(Below.refl _ _).alloc (Nat.le_refl _) _
 have m:Hid (ChkOk j (.agg #[.slice A n c,.int .i64 root]) chk):=hid (h.later l);have g:=hid l;clear h l;go_enter func21,ntmps21;go_upto_region 1 with fail;have k:Blk j w.heap.size 24 #[.slice A n c,.int .i64 root]:=by rw[<-a];exact Blk.new _ _ _
 obtain⟨q,p⟩:=cells2 k;have d:=hid k;(try rw[a]);clear a k;go_wp2_with fail;refine(m.out j (Below.refl _ _)).mono ?_;rintro e o ⟨rfl,b⟩;have f:Hid (Below w.heap.size w o):=hid (g.out.trans (b.mono g.out.size));have i:=d.out.below b d.out.lt;have k0:o.cell? ⟨w.heap.size,0,none⟩=some (.slice A n c):=i.cell 0;clear b i q p;by_cases h0:chk=0
 ·subst h0;go_wp2;go_ret;exact⟨rfl,f.out⟩
 ·have h0I:((chk:Int)==0)=false:=by rw[beq_eq_false_iff_ne];omega
  go_wp2;go_ret;exact⟨by first|rfl| (rw[if_neg h0];rfl),f.out⟩
def DepOk (w:World) (g:Value) (p:Int×Bool):Prop:=∀W,Below w.heap.size w W->Calls prog 39 #[g] W fun e w'=>e=.returned (.tuple #[.int .i64 p.1,.bool p.2])/\Below W.heap.size W w'
theorem zq3 (A:Option Addr) (n c:Nat) (root:Int) (chk:Nat) (p:Int×Bool) (w:World) (h:ChkOk w (.agg #[.slice A n c,.int .i64 root]) chk) (hd:chk=0->DepOk w (.agg #[.slice A n c,.int .i64 root]) p):
 Calls prog 22 #[.agg #[.slice A n c,.int .i64 root]] w fun e w'=>e=.returned (.tuple #[.int .i64 (if chk=0 then p.1 else 0),.bool (if chk=0 then p.2 else false)])/\Below w.heap.size w w':=by
 obtain⟨l,b⟩:=ex (w.alloc (.cells #[.slice A n c,.int .i64 root] 24))
 have s:Below w.heap.size w l:=by rw[<-b];exact(Below.refl _ _).alloc (Nat.le_refl _) _
 have o:Hid (ChkOk l (.agg #[.slice A n c,.int .i64 root]) chk):=hid (h.later s);have g:=hid s;have x:=hid hd;clear h s hd;go_enter func22,ntmps22;go_upto_region 1 with fail;have m:Blk l w.heap.size 24 #[.slice A n c,.int .i64 root]:=by rw[<-b];exact Blk.new _ _ _
 obtain⟨y,u⟩:=cells2 m;have i:=hid m;(try rw[b]);clear b m;go_wp2_with fail;refine(o.out l (Below.refl _ _)).mono ?_;rintro e t ⟨rfl,d⟩;have f:Below w.heap.size w t:=g.out.trans (d.mono g.out.size);have a:=hid f;have k:=i.out.below d i.out.lt;obtain⟨k0,k1⟩:=cells2 k;clear d k y u f;by_cases h0:chk=0
 ·have r:=hid (x.out h0 t a.out);subst h0;go_wp2_with fail;refine r.out.mono ?_;rintro e v ⟨rfl,j⟩;have q:Hid (Below w.heap.size w v):=hid (a.out.trans (j.mono a.out.size));clear j;go_wp2;go_ret2;exact⟨rfl,q.out⟩
 ·have h0I:((chk:Int)==0)=false:=by rw[beq_eq_false_iff_ne];omega
  go_wp2;go_ret2;exact⟨by first|rfl| (rw[if_neg h0,if_neg h0];rfl),a.out⟩
def zwl (w:World) (kind:Int) (text:Gr.Str) (r:Bool) (e:Ending) (w':World):Prop:=
 Below w.heap.size w w'/\(r=false->e=.returned (.tuple #[gZero,.int .i64 3]))/\(r=true->∃g,w.heap.size<=g/\e=.returned (.tuple #[.agg #[.slice (some ⟨g,0,none⟩) 1 1,.int .i64 0],.int .i64 0])/\Blk w' g 35 #[.int .i64 kind,.string ⟨text.toArray⟩,.bool false,.slice none 0 0,.slice none 0 0])
theorem zd4 (T:World->Prop) (hT:Stays T) (kind:Int) (text:Gr.Str) (r:Bool) (hk:0<=kind) (hk8:kind<=8) (hs:ScalOk T kind text r) (w:World) (hTw:T w):
 Calls prog 16 #[.int .i64 kind,.string ⟨text.toArray⟩] w (zwl w kind text r):=by
 have c1:¬kind<0:=by omega
 have c2:¬(8:Int)<kind:=by omega
 obtain⟨x,c⟩:=ex (w.alloc (.cells #[.slice none 0 0,.int .i64 0] 24))
 obtain⟨f,b⟩:=ex w.heap.size
 have y:Below f w x:=by rw[<-c,<-b];exact(Below.refl _ _).alloc (Nat.le_refl _) _
 have B:Blk x f 24 #[.slice none 0 0,.int .i64 0]:=by rw[<-c,<-b];exact Blk.new _ _ _
 have C:=hid (hs x (hT _ _ hTw (by rw[b];exact y)));have t:=hid y;have j:=hid B;have k:=hid b;clear hs hTw y B;go_enter func16,ntmps16;go_upto_region 1 with fail;(try rw[c]);(try rw[b]);clear c b;go_wp2_with fail;refine C.out.mono ?_;rintro e d ⟨rfl,g⟩;have a:=j.out.below g j.out.lt;have n:Hid (Below f w d):=hid (t.out.trans (g.mono (by have:=j.out.lt;omega)));have u:=hid a;have df:∀i,d.frozen? ⟨f,i,none⟩=false:=a.frozen;have df2:∀o i,(d.alloc o).frozen? ⟨f,i,none⟩=false:=fun o=>(a.alloc o).frozen
 obtain⟨d0,d1⟩:=cells2 a;have d2:∀o,(d.alloc o).cell? ⟨f,0,none⟩=some (.slice none 0 0):=fun o=>(a.alloc o).cell 0
 have d3:∀o,(d.alloc o).cell? ⟨f,1,none⟩=some (.int .i64 0):=fun o=>(a.alloc o).cell 1
 have s:Hid (f<d.heap.size):=hid a.lt;clear g a;cases r with
 |false=>
  go_wp2_with fail;refine bodyPost_ret (v:=.tuple #[gZero,.int .i64 3]) (by rw[results_cell_tmp rfl];go_simp;rfl) rfl ⟨?_,fun _=>rfl,fun h=>nomatch h⟩;rw[k.out];exact(n.out.setCell (by simp) _).setCell (by simp) _
 |true=>
  go_wp2_with fail;obtain⟨o,A⟩:=ex (Obj.cells #[Value.int IntKind.i64 kind,Value.string {data:=List.toArray text},Value.bool false,Value.slice none 0 0,Value.slice none 0 0] 35)
  rw[A];obtain⟨q,l⟩:=ex d.heap.size
  rw[l];have p:=((u.out.alloc o).set_ 0 (.slice (some ⟨q,0,none⟩) 1 1)).set_ 1 (.int .i64 0);have e0:=p.cell 0;have e1:=p.cell 1;have m:=n.out;have HSZ2:=s.out;have z:Blk (d.alloc o) q 35 #[.int .i64 kind,.string ⟨text.toArray⟩,.bool false,.slice none 0 0,.slice none 0 0]:=by rw[<-l,<-A];exact Blk.new _ _ _
  refine bodyPost_ret (v:=.tuple #[.agg #[.slice (some ⟨q,0,none⟩) 1 1,.int .i64 0],.int .i64 0]) ?_ rfl (And.intro ?_ (And.intro (fun h=>nomatch h) (fun _=>⟨q,?_,rfl,?_⟩)))
  ·rw[results_cell_tmp rfl];go_simp
  ·rw[k.out];exact((m.alloc (by omega) o).setCell (by simp) _).setCell (by simp) _
  ·rw[k.out];omega
  ·exact(z.far (by simp;omega) _).far (by simp;omega) _
theorem Tab.push {B:Nat} {w1 w2:World} {g n cap k:Nat} {x:NV} {vl:List NV} {m:Gr.Nd} {nl:List Gr.Nd} {v:Value} (h:Tab B w1 (.slice (some ⟨g,0,none⟩) n cap) (x::vl) (m::nl))
 (hown:OwnRow intL w2 B 3 v (m.items++[k])) (hg:w1.grownBy w2 x.i.v.ownBlock) (hat:v.ownBlock=x.i.v.ownBlock\/v.ownBlock=some w1.heap.size):
 ∃i:SV,v=i.v/\Tab B (w2.setCell ⟨g,4,none⟩ v) (.slice (some ⟨g,0,none⟩) n cap) ({x with i:=i}::vl) ({m with items:=m.items++[k]}::nl)/\(∀t,t≠35->t≠3->KeptT t w1 (w2.setCell ⟨g,4,none⟩ v))/\(B<=w1.heap.size->Below B w1 (w2.setCell ⟨g,4,none⟩ v)):=by
 obtain⟨A,c,y,_⟩:=hown.form;have s:ints (x::vl) 0 true=x.i:=rfl;have E:intsOf (m::nl) 0 true=m.items:=rfl;have j:=h.rows.own 0 true;rw[s,E]at j;have o:KeptT 35 w1 w2:=KeptT.grown hg j (by decide);obtain⟨w,f,rest,hv',hcap,F,q,d⟩:=h.row.row (by simp);obtain⟨rfl,rfl,rfl⟩:g=w/\n=(x::vl).length/\cap=f:=by
  grind
 have b:=o _ _ F;have r:=zm6 b 0 (by simp) ⟨A,(m.items++[k]).length,c⟩;have a:v=(⟨A,(m.items++[k]).length,c⟩:SV).v:=y;rw[<-a,Nat.zero_mul,Nat.zero_add]at r;have l:KeptT 3 w2 (w2.setCell ⟨g,4,none⟩ v):=KeptT.setCell (p:=⟨g,4,none⟩) b (by decide) v;refine⟨⟨A,(m.items++[k]).length,c⟩,a,⟨d _ _ (by simp) r,?_⟩,?_,?_⟩
 ·have u:=h.rows.grow (w':=w2) 0 true {x with i:=⟨A,(m.items++[k]).length,c⟩} {m with items:=m.items++[k]} (by simp) ⟨rfl,rfl,rfl⟩ ⟨rfl,rfl,rfl⟩ rfl rfl (by rw[if_pos rfl,if_pos rfl,<-a];exact hown) hg (by rw[if_pos rfl,<-a];exact hat);exact u.kept l
 ·intro t z D;exact(KeptT.grown hg j (fun e=>D e.symm)).trans (KeptT.setCell (p:=⟨g,4,none⟩) b z v)
 ·intro C;exact(j.grown_below hg C).setCell q v
theorem Tab.one {B:Nat} {w:World} {g:Nat} {kind:Int} {text:Gr.Str} {ord:Bool} (h:Blk w g 35 #[.int .i64 kind,.string ⟨text.toArray⟩,.bool ord,.slice none 0 0,.slice none 0 0]) (hB:B<=g):
 Tab B w (.slice (some ⟨g,0,none⟩) 1 1) [⟨kind,text,ord,SV.nil,SV.nil⟩] [⟨kind,text,ord,[],[]⟩]:=by
 have a:=(Rows.nil B w).snoc ⟨kind,text,ord,SV.nil,SV.nil⟩ ⟨kind,text,ord,[],[]⟩ ⟨rfl,rfl,rfl⟩ OwnRow.nil OwnRow.nil (fun g h=>by simp[SV.nil,SV.v,Value.ownBlock]at h) (fun j b g h=>by simp[ints,SV.nil,SV.v,Value.ownBlock]at h);refine⟨⟨nodeL.all_len _,.inr ⟨g,1,_,rfl,hB,h,Nat.le_refl _,by decide,rfl,rfl⟩⟩,a⟩
structure GArg where
 a:Option Addr
 c:Nat
 root:Int
 vs:List NV
 is:List Gr.Ni
def GArg.v (x:GArg):Value:=.agg #[.slice x.a x.is.length x.c,.int .i64 x.root]
def argL:Lay GArg:={enc:=fun x=>[.slice x.a x.is.length x.c,.int .i64 x.root],sz:=2,len:=fun _=>rfl,one:=fun x u hu=>by simp at hu;rcases hu with rfl|rfl<;>rfl,pos:=by omega}
theorem zk9 {w:World} {B:Nat} {A:Option Addr} {l:List GArg} {k:Nat} (h:RowAt argL w B A l) (hk:k<l.length):∃ad,A=some ad/\ad.block<B/\w.cell? (ad.add (k*2))=some (.slice l[k].a l[k].is.length l[k].c)/\
 w.cell? {block:=(ad.add (k*2)).block,off:=(ad.add (k*2)).off+1}=some (.int .i64 l[k].root):=by
 obtain⟨ad,d,e,f,b⟩:=h.get hk;exact⟨ad,d,e,f _ rfl,b 1 _ (by omega) rfl⟩
structure GsAt (w:World) (B:Nat) (A:Option Addr) (l:List GArg):Prop where
 row:RowAt argL w B A l
 each:∀x∈l,IAt w B x.a x.vs x.is
theorem GsAt.below {w w':World} {B:Nat} {A:Option Addr} {l:List GArg} (h:GsAt w B A l) (hb:Below B w w'):GsAt w' B A l:=⟨h.row.below hb,fun x a=>(h.each x a).below hb⟩
theorem GsAt.more {w:World} {B B':Nat} {A:Option Addr} {l:List GArg} (h:GsAt w B A l) (hB:B<=B'):GsAt w B' A l:=⟨h.row.more hB,fun x a=>(h.each x a).more hB⟩
namespace Gr
def push0 (k:Nat):List Nd->List Nd
 | []=>[]
 |m::l=>{m with items:=m.items++[k]}::l
def lstep (ns:List Nd) (g:List Ni×Int):List Nd:=push0 (g.2.toNat+ns.length) (ns++(g.1.map Ni.nd).map (shN ns.length))
def listN (gs:List (List Ni×Int)):List Nd:=gs.foldl lstep [⟨9,[],false,[],[]⟩]
end Gr
def GArg.p (x:GArg):List Gr.Ni×Int:=(x.is,x.root)
def GArg.chk (sclr:Int->Gr.Str->Bool) (x:GArg):Nat:=checkI sclr x.is x.root
theorem zq4 {sclr:Int->Gr.Str->Bool} {x:GArg} (h:x.chk sclr=0):x.is.length<=4096/\0<x.is.length/\indB x.is x.root=true:=by
 unfold GArg.chk checkI at h;by_cases h1:x.is.length>4096
 ·rw[if_pos h1]at h;cases h
 ·grind
theorem zq5 {is:List Gr.Ni} {root:Int} (h:indB is root=true):∃r:Nat,root=(r:Int)/\r<is.length/\(∀x∈is,∀y∈x.keys++x.items,0<=y)/\Refs (is.map Gr.Ni.nd):=by
 unfold indB at h;rw[Bool.and_eq_true]at h;have a:=h.1;simp only[inR,Bool.and_eq_true,decide_eq_true_eq]at a;refine⟨root.toNat,by omega,by omega,?_,?_⟩
 ·exact(zbu h.2).1
 ·exact(zbu h.2).2
namespace Gr
structure Bfs (sc:Nat->List Nat) (n a:Nat) (m:List Bool) (L:List Nat) (i:Nat) (P:List Nat):Prop where
 ml:m.length=n
 lt:∀x∈L,x<n
 nd:L.Nodup
 mem:∀x,mkd m x=true↔x∈L
 frm:a∈L
 re:∀x∈L,Reach sc a x
 done:∀j,j<i->∀x,L[j]? =some x->∀y∈sc x,mkd m y=true
 part:∀y∈P,mkd m y=true
section
variable {sc:Nat->List Nat} {n a i:Nat} {m:List Bool} {L P:List Nat}
theorem Bfs.start (h:a<n):Bfs sc n a ((List.replicate n false).set a true) [a] 0 [] where
 ml:=by simp
 lt x hx:=by rw[List.mem_singleton.1 hx];exact h
 nd:=by simp
 mem x:=by
  rw[zkd (by simpa using h),zft];by_cases e:x=a
  ·simp[e]
  ·simp[e]
 frm:=by simp
 re x hx:=by rw[List.mem_singleton.1 hx];exact .refl a
 done j hj:=by omega
 part y hy:=by cases hy
theorem Bfs.old (h:Bfs sc n a m L i P) {y:Nat} (hy:mkd m y=true):Bfs sc n a m L i (P++[y]):=
 ⟨h.ml,h.lt,h.nd,h.mem,h.frm,h.re,h.done,fun z hz=>by
  rcases List.mem_append.1 hz with hz|hz
  ·exact h.part z hz
  ·rw[List.mem_singleton.1 hz];exact hy⟩
theorem Bfs.new (h:Bfs sc n a m L i P) {u y:Nat} (hi:L[i]? =some u) (hys:y∈sc u) (hyn:y<n) (hy:mkd m y=false):Bfs sc n a (m.set y true) (L++[y]) i (P++[y]):=by
 have c:=fun x=>zkd (m:=m) (a:=y) (by rw[h.ml];exact hyn) x
 have b:∀x,mkd m x=true->mkd (m.set y true) x=true:=fun x hx=>by rw[c];split<;>simp_all
 have hil:i<L.length:=by
  grind
 refine⟨by simp[h.ml],?_,?_,?_,List.mem_append_left _ h.frm,?_,?_,?_⟩
 ·intro x hx;rcases List.mem_append.1 hx with hx|hx
  ·exact h.lt x hx
  ·grind
 ·rw[List.nodup_append];refine⟨h.nd,by simp,?_⟩;intro x hx z hz e;rw[List.mem_singleton.1 hz]at e;subst e;rw[(h.mem x).2 hx]at hy;cases hy
 ·intro x;rw[c,List.mem_append];by_cases e:x=y
  ·simp[e]
  ·rw[if_neg e,h.mem];simp[e]
 ·intro x hx;rcases List.mem_append.1 hx with hx|hx
  ·exact h.re x hx
  ·rw[List.mem_singleton.1 hx];exact(h.re u (List.mem_of_getElem? hi)).trans (.one hys)
 ·intro j d x hx z hz;rw[List.getElem?_append_left (by omega)]at hx;exact b z (h.done j d x hx z hz)
 ·intro z hz;rcases List.mem_append.1 hz with hz|hz
  ·exact b z (h.part z hz)
  ·grind
theorem Bfs.next (h:Bfs sc n a m L i P) {u:Nat} (hi:L[i]? =some u) (hP:P=sc u):Bfs sc n a m L (i+1) []:=
 ⟨h.ml,h.lt,h.nd,h.mem,h.frm,h.re,fun j hj x b y c=>by
  rcases Nat.lt_or_ge j i with h1|h1
  ·exact h.done j h1 x b y c
  ·obtain rfl:j=i:=by omega
   rw[hi]at b;injection b with b
   subst b;exact h.part y (hP▸c),fun y c=>by cases c⟩
theorem Bfs.len_le (h:Bfs sc n a m L i P):L.length<=n:=by
 rw[<-zdp n L h.nd h.lt];have:=List.countP_le_length (p:=fun i=>decide (i∈L)) (l:=List.range n);simpa using this
theorem Bfs.last (h:Bfs sc n a m L i P) (hi:L.length<=i) (x:Nat):mkd m x=true↔Reach sc a x:=by
 constructor
 ·intro c;exact h.re x ((h.mem x).1 c)
 ·intro b;refine b.closed (p:=fun x=>mkd m x=true) ?_ ((h.mem a).2 h.frm);intro u e v d;obtain⟨j,f,rfl⟩:=List.getElem_of_mem ((h.mem u).1 e);exact h.done j (by omega) _ (List.getElem?_eq_getElem f) v d
end
section
variable {ns:List Nd} {root a:Nat}
theorem zqw {l m:List Bool} (hl:l.length=m.length) (h:∀x,mkd l x=true↔mkd m x=true):l=m:=by
 apply List.ext_getElem hl;intro i c b;have:=h i;unfold mkd at this;simp only[List.getD_eq_getElem?_getD,List.getElem?_eq_getElem c,List.getElem?_eq_getElem b,Option.getD_some]at this;cases e1:l[i]<;>cases e2:m[i]<;>simp_all
theorem zbe (h:Refs ns) (hr:root<ns.length):(marks ns root).length=ns.length:=
 (zbo h.succ ns.length (List.replicate ns.length false) root (by simp) hr (zdq _)).len
theorem zf5 (h:Refs ns):(inKeys ns).length=ns.length:=by
 have b:∀k∈allKeys ns,k<ns.length:=by
  intro k b;obtain⟨y,d,c⟩:=List.mem_flatMap.1 b;exact h y d k (List.mem_append_left _ c)
 exact(zeq (zbo h.succ ns.length) (allKeys ns) (List.replicate ns.length false) b (by simp) (zdq _)).len
theorem Bfs.marks {i:Nat} {m:List Bool} {L P:List Nat} (h:Refs ns) (ha:a<ns.length) (hb:Bfs (succ ns) ns.length a m L i P) (hi:L.length<=i):m=Gr.marks ns a:=
 zqw (by rw[hb.ml,zbe h ha]) (fun x=>by rw[hb.last hi,zbb h ha])
def orM (o m:List Bool):List Bool:=List.zipWith (·|| ·) o m
theorem zqx {o m:List Bool} (h:o.length=m.length):(orM o m).length=o.length:=by simp[orM,h]
theorem zun {o m:List Bool} (h:o.length=m.length) (x:Nat):mkd (orM o m) x=(mkd o x || mkd m x):=by
 unfold mkd orM;simp only[List.getD_eq_getElem?_getD,List.getElem?_zipWith];rcases Nat.lt_or_ge x o.length with h1|h1
 ·grind
 ·grind
theorem zit (h:Refs ns):∀(K:List Nat) (o:List Bool),(∀k∈K,k<ns.length)->o.length=ns.length->
 (K.foldl (fun o k=>orM o (Gr.marks ns k)) o).length=ns.length/\∀x,mkd (K.foldl (fun o k=>orM o (Gr.marks ns k)) o) x=true↔mkd o x=true\/∃k∈K,Reach (succ ns) k x:=by
 intro K
 induction K with
 |nil=>intro o _ b;exact⟨b,fun x=>by simp⟩
 |cons k K ih=>
  intro o c b;have d:=c k (.head _);have e:=zbe h d;obtain⟨g,f⟩:=ih (orM o (Gr.marks ns k)) (fun z j=>c z (.tail _ j)) (by rw[zqx (by omega),b]);refine⟨g,fun x=>?_⟩;rw[List.foldl_cons,f,zun (by omega),Bool.or_eq_true,zbb h d];constructor
  ·grind
  ·grind
theorem zjz (h:Refs ns):(allKeys ns).foldl (fun o k=>orM o (Gr.marks ns k)) (List.replicate ns.length false)=Gr.inKeys ns:=by
 have b:∀k∈allKeys ns,k<ns.length:=by
  intro k b;obtain⟨y,f,c⟩:=List.mem_flatMap.1 b;exact h y f k (List.mem_append_left _ c)
 obtain⟨d,e⟩:=zit h (allKeys ns) (List.replicate ns.length false) b (by simp);refine zqw (by rw[d,zf5 h]) (fun x=>?_);rw[e,zat h,zft];simp
end
end Gr
theorem zi1 (A A2:Option Addr) (c d n:Nat) (l:List Int) (hn:Hid (n=l.length)) (hl:n<=9223372036854775807) (w:World) (h:RowAt intI w w.heap.size A l) (h2:RowAt intI w w.heap.size A2 l):
 Calls prog 61 #[.slice A n c,.slice A2 n d] w fun e w'=>e=.returned (.bool true)/\Below w.heap.size w w':=by
 have H:=hid (And.intro h h2);clear h h2;go_enter func61,ntmps61;go_wp2_with fail;go_loopw [5] (fun s5 wr=>∃k:Nat,k<=n/\s5=.int .i64 (k:Int)/\Hid (Below w.heap.size w wr)) (fun s5 _=>n-(intOf s5).toNat)
 case atStart=>exact⟨0,Nat.zero_le _,rfl,hid (Below.refl _ _)⟩
 case round=>
  obtain⟨k,hk,rfl,b⟩:=hrel;by_cases hlt:k<n
  ·have a:(k:Int)<(n:Int):=by omega
   obtain⟨ad,rfl,_,g⟩:=ze1 (H.out.1.below b.out) (show k<l.length by have:=hn.out;omega);obtain⟨ad2,rfl,_,i⟩:=ze1 (H.out.2.below b.out) (show k<l.length by have:=hn.out;omega);obtain⟨p,f⟩:∃p,l[k]'(by have:=hn.out;omega)=p:=⟨_,rfl⟩
   rw[f]at g i;clear f;go_wp2_with fail;go_quiet (fail);go_wp2;go_roundw
   case rel=>exact⟨k+1,by omega,by go_num,hid (below_drewN b.out _)⟩
   case measure=>simp[intOf];omega
  ·have a:¬(k:Int)<(n:Int):=by omega
   go_wp2;go_ret;exact⟨rfl,b.out⟩
def Sz (is:List Gr.Ni):Prop:=is.length<=9223372036854775807/\∀x∈is,x.text.length<=9223372036854775807/\x.keys.length<=9223372036854775807/\x.items.length<=9223372036854775807
theorem znm (A A2:Option Addr) (c c2:Nat) (root:Int) (vs vs2:List NV) (is:List Gr.Ni) (hz:Sz is) (w:World) (h:IAt w w.heap.size A vs is) (h2:IAt w w.heap.size A2 vs2 is):
 Calls prog 30 #[.agg #[.slice A is.length c,.int .i64 root],.agg #[.slice A2 is.length c2,.int .i64 root]] w fun e w'=>e=.returned (.bool true)/\Below w.heap.size w w':=by
 have H:=hid (And.intro h h2);have HZ:=hid hz;have hl:=hz.1;obtain⟨N,hN⟩:=ex is.length
 have HN:=hid hN;rw[hN]at hl ⊢;clear h h2 hz hN;obtain⟨l,p⟩:=ex w.heap.size
 have af:=hid p;go_enter func30,ntmps30;go_upto_region 1 with fail;obtain⟨t,J⟩:=ex ((w.alloc (.cells #[.slice A N c,.int .i64 root] 24)).alloc (.cells #[.slice A2 N c2,.int .i64 root] 24))
 have g:Hid (Blk t l 24 #[.slice A N c,.int .i64 root]/\Blk t (l+1) 24 #[.slice A2 N c2,.int .i64 root]/\Below l w t):=hid (by
  rw[<-J,<-p];refine⟨(Blk.new _ _ _).alloc _,?_,((Below.refl _ _).alloc (Nat.le_refl _) _).alloc (by simp) _⟩;have:=Blk.new (w.alloc (.cells #[.slice A N c,.int .i64 root] 24)) 24 #[.slice A2 N c2,.int .i64 root];rw[World.size_alloc]at this;exact this)
 have aa:Hid (IAt t l A vs is/\IAt t l A2 vs2 is):=hid (by rw[<-p];exact⟨H.out.1.below (by have:=g.out.2.2;rwa[<-p]at this),H.out.2.below (by have:=g.out.2.2;rwa[<-p]at this)⟩);(try rw[J]);(try rw[p]);clear J p H;obtain⟨a0,a1⟩:=cells2 g.out.1;obtain⟨b0,b1⟩:=cells2 g.out.2.1;go_wp2_with fail;clear a0 a1 b0 b1;have m:Hid (l+1<t.heap.size):=hid g.out.2.1.lt;go_loopw [5] (fun s5 wr=>∃k:Nat,k<=N/\s5=.int .i64 (k:Int)/\Hid (Below t.heap.size t wr)) (fun s5 _=>N-(intOf s5).toNat)
 case atStart=>exact⟨0,Nat.zero_le _,rfl,hid (Below.refl _ _)⟩
 case round=>
  obtain⟨k,hk,rfl,M⟩:=hrel;obtain⟨f,ae⟩:∃f,f=wr:=⟨_,rfl⟩
  subst ae;have ca:=g.out.1.below M.out g.out.1.lt;have cb:=g.out.2.1.below M.out g.out.2.1.lt;have a0:f.cell? ⟨l,0,none⟩=some (.slice A N c):=ca.cell 0;have b0:f.cell? ⟨l+1,0,none⟩=some (.slice A2 N c2):=cb.cell 0;have j:Hid (t.heap.size<=f.heap.size):=hid M.out.size;clear ca cb;by_cases hlt:k<N
  ·have P:(k:Int)<(N:Int):=by omega
   have y:k<is.length:=by rw[HN.out];exact hlt
   have lq:=M.out.mono (show l<=t.heap.size by have:=m.out;omega);obtain⟨x,⟨O,kn,kc⟩,⟨I,qn,L⟩,rfl,Y,c0,c1,V,c3,c4,r1,W,r2,S⟩:=(aa.out.1.below lq).node y;obtain⟨i,⟨r,d,u⟩,⟨n,b,s⟩,rfl,G,d0,d1,d2,d3,d4,s1,m1,s2,m2⟩:=(aa.out.2.below lq).node y;obtain⟨C,Z⟩:=ex (is[k].kind)
   obtain⟨v,R⟩:=ex (is[k].text)
   obtain⟨E,X⟩:=ex (is[k].ord)
   obtain⟨K,hK⟩:=ex (is[k].keys)
   obtain⟨Q,hQ⟩:=ex (is[k].items)
   have z:=HZ.out.2 _ (List.getElem_mem y);simp only[Z,R,X,hK,hQ]at c0 c1 V d0 d1 d2 r1 W r2 S s1 m1 s2 m2 z;simp only at c3 c4 d3 d4;obtain rfl:d=kn:=m1.trans W.symm;obtain rfl:b=qn:=m2.trans S.symm;have q:Hid (RowAt intI f l O K/\RowAt intI f l I Q/\RowAt intI f l r K/\RowAt intI f l n Q):=hid ⟨r1,r2,s1,s2⟩;have B:Hid (d=K.length/\b=Q.length):=hid ⟨W,S⟩;have zk:d<=9223372036854775807:=by rw[W];exact z.2.1
   have zq:b<=9223372036854775807:=by rw[S];exact z.2.2
   clear Z R X hK hQ r1 W r2 S s1 m1 s2 m2 z lq y Y G;go_wp2_with fail;go_cut [6,7] (fun s6 s7 wx=>∃g6 g7,s6=.pointer (some ⟨g6,0,none⟩)/\s7=.pointer (some ⟨g7,0,none⟩)/\Hid (Blk wx g6 35 #[.int .i64 C,.string ⟨v.toArray⟩,.bool E,.slice O d kc,.slice I b L]/\Blk wx g7 35 #[.int .i64 C,.string ⟨v.toArray⟩,.bool E,.slice r d u,.slice n b s]/\Below f.heap.size f wx))
   case first=>
    go_region_held3 (fun w'=>w'.cell? ⟨l,0,none⟩=some (.slice (some x) N c)/\w'.cell? ⟨l+1,0,none⟩=some (.slice (some i) N c2)/\
     w'.cell? (x.add (k*5))=some (.int .i64 C)/\
     w'.cell? {block:=(x.add (k*5)).block,off:=(x.add (k*5)).off+1}=some (.string ⟨v.toArray⟩)/\
     w'.cell? {block:=(x.add (k*5)).block,off:=(x.add (k*5)).off+2}=some (.bool E)/\
     w'.cell? {block:=(x.add (k*5)).block,off:=(x.add (k*5)).off+3}=some (.slice O d kc)/\
     w'.cell? {block:=(x.add (k*5)).block,off:=(x.add (k*5)).off+4}=some (.slice I b L)/\
     w'.cell? (i.add (k*5))=some (.int .i64 C)/\
     w'.cell? {block:=(i.add (k*5)).block,off:=(i.add (k*5)).off+1}=some (.string ⟨v.toArray⟩)/\
     w'.cell? {block:=(i.add (k*5)).block,off:=(i.add (k*5)).off+2}=some (.bool E)/\
     w'.cell? {block:=(i.add (k*5)).block,off:=(i.add (k*5)).off+3}=some (.slice r d u)/\
     w'.cell? {block:=(i.add (k*5)).block,off:=(i.add (k*5)).off+4}=some (.slice n b s))
      (first|go_keep| (simp[go_sem])) (fail)
    all_goals
     go_wp2;go_meet
    ·refine⟨f.heap.size,f.heap.size+1,rfl,rfl,hid ⟨(Blk.new _ _ _).alloc _,?_,((((Below.refl f.heap.size f).alloc (Nat.le_refl _) _).alloc (by simp) _).drew)⟩⟩;have:=Blk.new (f.alloc (.cells #[.int .i64 C,.string ⟨v.toArray⟩,.bool E,.slice O d kc,.slice I b L] 35)) 35 #[.int .i64 C,.string ⟨v.toArray⟩,.bool E,.slice r d u,.slice n b s];rw[World.size_alloc]at this;exact this
    ·refine⟨f.heap.size+1,f.heap.size,rfl,rfl,hid ⟨?_,(Blk.new _ _ _).alloc _,((((Below.refl f.heap.size f).alloc (Nat.le_refl _) _).alloc (by simp) _).drew)⟩⟩;have:=Blk.new (f.alloc (.cells #[.int .i64 C,.string ⟨v.toArray⟩,.bool E,.slice r d u,.slice n b s] 35)) 35 #[.int .i64 C,.string ⟨v.toArray⟩,.bool E,.slice O d kc,.slice I b L];rw[World.size_alloc]at this;exact this
   case rest=>
    obtain⟨g6,g7,rfl,rfl,a⟩:=hcut;clear c0 c1 V c3 c4 d0 d1 d2 d3 d4 a0 b0;obtain⟨e0,e1,e2,e3⟩:=cells4 a.out.1;obtain⟨f0,f1,f2,f3⟩:=cells4 a.out.2.1;have hts:((⟨v.toArray⟩:ByteArray)==⟨v.toArray⟩)=true:=by rw[str_eq];simp
    have F:Hid (Below l f wc):=hid (a.out.2.2.mono (by have:=m.out;have:=j.out;omega));have ab:=hid (zi1 O r kc u d K (hid B.out.1) zk wc ((q.out.1.below F.out).more (by have:=m.out;have:=j.out;have:=a.out.2.2.size;omega)) ((q.out.2.2.1.below F.out).more (by have:=m.out;have:=j.out;have:=a.out.2.2.size;omega)));go_wp2_with fail;refine ab.out.mono ?_;rintro _ w5 ⟨rfl,o⟩;have U:=hid o;have x6:=a.out.1.below o a.out.1.lt;have x7:=a.out.2.1.below o a.out.2.1.lt;have e4:w5.cell? ⟨g6,4,none⟩=some (.slice I b L):=x6.cell 4;have f4:w5.cell? ⟨g7,4,none⟩=some (.slice n b s):=x7.cell 4;have D:Hid (Below l f w5):=hid (F.out.trans (o.mono (by have:=m.out;have:=j.out;have:=a.out.2.2.size;omega)));have ag:=hid (zi1 I n L s b Q (hid B.out.2) zq w5 ((q.out.2.1.below D.out).more (by have:=m.out;have:=j.out;have:=a.out.2.2.size;have:=o.size;omega)) ((q.out.2.2.2.below D.out).more (by have:=m.out;have:=j.out;have:=a.out.2.2.size;have:=o.size;omega)));clear o x6 x7 e0 e1 e2 e3 f0 f1 f2 f3;go_wp2_with fail;refine ag.out.mono ?_;rintro _ w6 ⟨rfl,T⟩;have ac:Hid (Below t.heap.size t w6):=hid (M.out.trans ((a.out.2.2.mono j.out).trans ((U.out.mono (by have:=j.out;have:=a.out.2.2.size;omega)).trans (T.mono (by have:=j.out;have:=a.out.2.2.size;have:=U.out.size;omega)))));clear T e4 f4;go_wp2;go_roundw
    case rel=>exact⟨k+1,by omega,by go_num,ac⟩
    case measure=>simp[intOf];omega
  ·have P:¬(k:Int)<(N:Int):=by omega
   go_wp2;go_ret;exact⟨rfl,by rw[af.out];exact g.out.2.2.trans (M.out.mono (by have:=m.out;omega))⟩
open Go.Shelf Go.Lib Go.ChangeShapes Go.WideShapes Go.ChangeAt Go.RowKit
def laid7:List (String×DataW Unit):=Rows.graphLimitsRow.laid
theorem own:ownKnob prog.godebug=none:=by kernel_rfl
theorem zt3:Rows.laid_unicode_utf8_first=Lib.firstData:=by kernel_rfl
theorem zrv:(Rows.laid_unicode_utf8_acceptRanges:DataW Unit)=Lib.acceptData:=by kernel_rfl
noncomputable def laidWorld (os:Os):World:=World.laidAll prog os laid7
theorem zt4 (os:Os) (args:Array Value):laidMet prog laid7 ((laidWorld os).forCall (fun _ _=>0) ⟨#[],args,[]⟩).memory:=laidMet_laidAll _ (by kernel_rfl) (by kernel_rfl)
theorem zrw:("unicode/utf8.first",Lib.firstData)∈laid7:=by
 rw[<-zt3];exact .tail _ (.tail _ (.tail _ (.tail _ (.tail _ (.tail _ (.head _))))))
theorem znp:("unicode/utf8.acceptRanges",Lib.acceptData)∈laid7:=by
 rw[<-zrv];exact .tail _ (.tail _ (.tail _ (.head _)))
theorem zi2 {W:World} (h:laidMet prog laid7 W):Lib.Utf8Tabs 1 2 W:=
 utf8Tabs_of_readsT (ρ:=lays197_ren) {lays197 with} ⟨by kernel_rfl,by kernel_rfl,by kernel_rfl,by kernel_rfl,by kernel_rfl,by kernel_rfl,by kernel_rfl⟩ (Lib.laidMet.reads h zrw) (Lib.laidMet.reads h znp)
theorem zus {W:World} {n:String} {k:IntKind} {zs:List Int} {t e:TypeId} {m g:Nat} (hg:prog.globalNamed n=some g) (hty:(prog.globals[g]?).map (·.type)=some t) (ht:prog.underlying t=some (.array m e)) (he:prog.underlying e=some (.int k)) (hce:prog.cellsOf e=1) (hct:prog.cellsOf t=m)
 (h:Lib.VarReads prog W n (Lib.tabData k zs)):Lib.TabIs prog W n k zs:=by
 obtain⟨g',t',cs,fuel,p,b,c,a,d⟩:=h;obtain rfl:=Option.some.inj (hg.symm.trans b);obtain rfl:=Option.some.inj (hty.symm.trans c);unfold Lib.TabIs;rw[a,<-Lib.cells_of_tab ht he hce hct d]
theorem zlj {W:World} {n:String} {t g:Nat} {ms:Array (String×TypeId)} {nm:String} {d:DataW Unit} (hg:prog.globalNamed n=some g) (hty:(prog.globals[g]?).map (·.type)=some t) (ht:prog.underlying t=some (.interface ms))
 (h:Lib.VarReads prog W n (.iface nm d)):∃te p,W.cell? ⟨g,0,none⟩=some (.iface te p):=by
 obtain⟨g',t',cs,a,p,e,f,b,c⟩:=h;obtain rfl:=Option.some.inj (hg.symm.trans e);obtain rfl:=Option.some.inj (hty.symm.trans f);cases a with
 |zero=>simp[DataW.trod]at c
 |succ a=>
  have h0:=World.var?_cell hg b 0;unfold DataW.trod at c;rw[ht]at c;split at c<;>simp_all;rename_i hcs;rw[<-Array.getElem?_toList,hcs];exact⟨_,_,rfl⟩
theorem zx8:(Rows.laid_internal_strconv_uint64pow10:DataW Unit)=Lib.tabData .u64 Lib.pow10Tab:=by kernel_rfl
theorem zx9:(Rows.laid_math_bits_deBruijn64tab:DataW Unit)=Lib.tabData .u8 (Lib.deBruijn64tab.map Int.ofNat):=by kernel_rfl
theorem znq {W:World} (hl:laidMet prog laid7 W):UT W:=by
 have h:=zi2 hl;have b:("math/bits.deBruijn64tab",(Rows.laid_math_bits_deBruijn64tab:DataW Unit))∈laid7:=.tail _ (.head _);have a:("internal/strconv.uint64pow10",(Rows.laid_internal_strconv_uint64pow10:DataW Unit))∈laid7:=.tail _ (.tail _ (.head _));have d:("strconv.ErrRange",(Rows.laid_strconv_ErrRange:DataW Unit))∈laid7:=.tail _ (.tail _ (.tail _ (.tail _ (.head _))));have f:("strconv.ErrSyntax",(Rows.laid_strconv_ErrSyntax:DataW Unit))∈laid7:=.tail _ (.tail _ (.tail _ (.tail _ (.tail _ (.head _)))));rw[zx9]at b;rw[zx8]at a;refine⟨h,?_,?_,?_,?_,?_⟩
 ·have c:=(h.2 0 (by decide)).1;rcases Nat.lt_or_ge 2 W.heap.size with h1|h1
  ·exact h1
  ·rw[World.cell?]at c;simp[Array.getElem?_eq_none h1]at c
 ·exact zus (t:=249) (e:=72) (m:=20) (g:=7) (by kernel_rfl) (by kernel_rfl) underlying249 underlying72 (by kernel_rfl) (by kernel_rfl) (Lib.laidMet.reads hl a)
 ·have i:=zus (t:=228) (e:=5) (m:=64) (g:=6) (by kernel_rfl) (by kernel_rfl) underlying228 underlying5 (by kernel_rfl) (by kernel_rfl) (Lib.laidMet.reads hl b);intro j k;have:=i.cell (g:=6) (by kernel_rfl) j (by simpa using k);rw[this]
  congr 2
  rw[List.getD_eq_getElem?_getD,List.getD_eq_getElem?_getD,List.getElem?_map];cases Lib.deBruijn64tab[j]? <;>rfl
 ·exact zlj (t:=150) (g:=4) (by kernel_rfl) (by kernel_rfl) underlying150 (Lib.laidMet.reads hl f)
 ·exact zlj (t:=150) (g:=5) (by kernel_rfl) (by kernel_rfl) underlying150 (Lib.laidMet.reads hl d)
end Go.Proofs.YtoigpackhninoaaGreatDoor

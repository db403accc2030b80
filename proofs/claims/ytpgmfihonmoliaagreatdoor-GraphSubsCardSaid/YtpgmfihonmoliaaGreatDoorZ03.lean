import Derived.Test.YtpgmfihonmoliaaGreatDoorZ02
import Derived.StillTail
import Derived.Laws.EntriesVeiled
import Derived.Test.YtpgmfihonmoliaaGreatDoorZ05
namespace Go.Proofs.YtpgmfihonmoliaaGreatDoor
open Go.RowKit
structure WB (B:Nat) (w0:World) where
 w:World
 h:Below B w0 w
instance WB.inst (B:Nat) (w0:World):Nonempty (WB B w0):=⟨⟨w0,Below.refl _ _⟩⟩
theorem zac {P:Program} {id:Nat} {Q:Exit->Act->World->Prop} {a:Act} {w:World} {l:List Oper} (B:Nat) (w0:World) (hm:P.follows .mixedOrders=true) (hB:Region.lexB .any l.toArray=true) (h0:Below B w0 w)
 (h:wpQuiet P l.toArray (fun W=>∃x:WB B w0,W=x.w) (fun a'=>∀W,(∃x:WB B w0,W=x.w)->Q .normal a' W) l a):(Code.region id l.toArray true).wp P Q a w:=
 wp_region_quiet (C:=fun W=>∃x:WB B w0,W=x.w) hm hB ⟨⟨_,below_drewN h0 1⟩,rfl⟩ (by simpa using h)
theorem Calls.grow {P:Program} {f:FuncId} {args:Array Value} {B:Nat} {w0:World} {x:WB B w0} {v:Value} (h:Calls P f args x.w fun e w'=>e=.returned v/\Below B w0 w'):
 Calls P f args x.w fun e w''=>e=.returned v/\∃y:WB B w0,w''=y.w:=h.mono fun _ _ ⟨b,a⟩=>⟨b,⟨_,a⟩,rfl⟩
section
variable {P:Program} {ops:Array Oper} {md:Region.Mode} {C:World->Prop}
def wpAnyLQ (P:Program) (md:Region.Mode) (ops:Array Oper) (C:World->Prop) (n:Nat) (L:Array Bool->Act->Prop):Nat->Array Bool->Act->Prop
 | 0,listed,a=>L listed a
 |f+1,listed,a=>Region.ready md ops listed≠[]/\∀i∈Region.ready md ops listed,i<n/\qOp P ops C i (wpAnyLQ P md ops C n L f (listed.setIfInBounds i true)) a
theorem zc1 {n g:Nat} {L:Array Bool->Act->Prop} {Q':Exit->Act->World->Prop} (hL:∀listed a w,C w->L listed a->wpAny P md ops Q' g listed a w):
 ∀(f:Nat) (listed:Array Bool) (a:Act) (w:World),C w->wpAnyLQ P md ops C n L f listed a->wpAny P md ops Q' (f+g) listed a w
 | 0,listed,a,w,hC,h=>by rw[Nat.zero_add];exact hL _ _ _ hC h
 |f+1,listed,a,w,hC,h=>by
  rw[show f+1+g=(f+g)+1 by omega];exact⟨fun j=>absurd j h.1,fun i d=>wpOp_of_qOp hC (fun e c b k=>zc1 hL f _ e c b k) (h.2 i d).2⟩
theorem zgj {n i:Nat} {oi:Oper} {v:Value} {L:Array Bool->Act->Prop} (hi:ops[i]? =some oi) (hsel:∀(j:Nat) (o:Oper) cs b,ops[j]? =some o->o.op≠.select cs b)
 (hs:Region.sinkB md ops n=true) (hc:Region.chainB md ops n=true) (hn:n<ops.size) (hin:i<n)
 (hdone:∀listed a,L listed a->∀j∈Region.ready md ops listed,n<=j):
 ∀(f:Nat) (listed:Array Bool) (a:Act),HeadInv md ops n listed->
  (∀j oj,ops[j]? =some oj->j≠i->listed.getD j true=false->(∀e∈oj.after,Region.binds md e=true->e.on≠i)->oi.apart ops oj=true)->
  i∈Region.ready md ops listed->YieldsIn P ops C oi v a->
  wpAnyLQ P md ops C n L f (listed.setIfInBounds i true) (a.put oi.dst v)->wpAnyLQ P md ops C n L (f+1) listed a:=by
 intro f
 induction f with
 |zero=>
  intro listed a g _ q u H;have c:=(mem_ready.1 q).1;refine⟨fun h=>(by rw[h]at q;cases q),fun j r=>?_⟩;have m:j<n:=by
   rcases Nat.lt_or_ge j n with h|h
   .exact h
   .exact absurd r (tail_waits hs hc hn g _ i rfl hin c j h)
  refine⟨m,?_⟩;by_cases hji:j=i
  .subst hji;exact u.qOp hi H
  .have:=hdone _ _ H j (ready_mono r hji);omega
 |succ f ih=>
  intro listed a g d q u H;have c:=(mem_ready.1 q).1;refine⟨fun h=>(by rw[h]at q;cases q),fun j r=>?_⟩;have m:j<n:=by
   rcases Nat.lt_or_ge j n with h|h
   .exact h
   .exact absurd r (tail_waits hs hc hn g _ i rfl hin c j h)
  refine⟨m,?_⟩;by_cases hji:j=i
  .subst hji;exact u.qOp hi H
  .have A:=(H.2 j (ready_mono r hji)).2;obtain⟨p,oj,s,hall⟩:=mem_ready.1 r;have t:∀e∈oj.after,Region.binds md e=true->e.on≠i:=fun e he hb heq=>by
    grind
   have z:=qOp_put s (d j oj s hji p t) (fun cs b=>hsel i oi cs b hi) (fun cs b=>hsel j oj cs b s) u A;have l:∀k ok,ops[k]? =some ok->k≠i->(listed.setIfInBounds j true).getD k true=false->
    (∀e∈ok.after,Region.binds md e=true->e.on≠i)->oi.apart ops ok=true:=fun k ok D x c w=>by
    refine d k ok D x ?_ w;by_cases hjk:j=k
    .subst hjk;exact p
    .rw[getD_set_ne true hjk]at c;exact c
   refine qOp_mono (fun B y=>ih (listed.setIfInBounds j true) B (g.set r m) l (ready_mono q (Ne.symm hji)) y.1 ?_) z;rw[Array.setIfInBounds_comm _ _ hji];exact y.2
theorem zey {n g:Nat} {Lq:Act->Prop} (hsel:Region.noSelect ops=true) (hs:Region.sinkB md ops n=true) (hc:Region.chainB md ops n=true) (hn:n<ops.size):
 ∀(l:List Oper) (k:Nat) (listed:Array Bool) (a:Act),(∀j,j<l.length->l[j]? =ops[k+j]?)->k+l.length=n->HeadInv md ops n listed->
 Region.lexHead md ops g l.length k listed=true->wpQuiet P ops C Lq l a->
 wpAnyLQ P md ops C n (fun listed' a'=>Region.seqB md ops g n listed'=true/\Lq a') l.length listed a
 | [],k,listed,a,_,hk,_,hB,h=>by
  have:k=n:=by simpa using hk
  subst this;exact⟨by simpa[Region.lexHead]using hB,h⟩
 |o::l,k,listed,a,hl,hk,inv,hB,h=>by
  have d:ops[k]? =some o:=by simpa using(hl 0 (by simp)).symm
  simp only[List.length_cons,Region.lexHead,Bool.and_eq_true]at hB;obtain⟨⟨q,m⟩,e⟩:=hB;have b:k<n:=by simp only[List.length_cons]at hk;omega
  have c:k∈Region.ready md ops listed:=by simpa using q
  have f:qOp P ops C k (wpQuiet P ops C Lq l) a:=by unfold qOp;simp only[d];exact h
  obtain⟨v,i,r⟩:=yieldsIn_of_qOp d f;exact zgj d (Region.noSelect_spec hsel) hs hc hn b (fun listed' a' p=>seqB_ready p.1) l.length listed a inv (Region.free_spec d m) c i
   (zey hsel hs hc hn l (k+1) _ _ (fun j hj=>by have:=hl (j+1) (by simp;omega);simpa[Nat.add_assoc,Nat.add_comm 1 j]using this) (by simp only[List.length_cons]at hk;omega) (inv.set c b) e r)
theorem zc0 {id:Nat} {Q:Exit->Act->World->Prop} {a:Act} {w:World} {l:List Oper} (n:Nat) (hm:P.follows .mixedOrders=true) (hB:Region.lexTailB .any l.toArray n=true) (hC:C {w with drawn:=w.drawn+1})
 (h:wpQuiet P l.toArray C (fun a'=>∀W,C W->wpList P l.toArray Q (l.drop n) a' W) (l.take n) a):(Code.region id l.toArray true).wp P Q a w:=by
 simp only[Region.lexTailB,Bool.and_eq_true,decide_eq_true_eq]at hB;obtain⟨⟨⟨⟨e,s⟩,x⟩,v⟩,i⟩:=hB;have hn':n<l.length:=by simpa using s
 have b:(l.take n).length=n:=by simp;omega
 have d:(l.drop n).length=l.toArray.size-n:=by simp
 have f:HeadInv .any l.toArray n (Array.replicate l.toArray.size false):=
  ⟨by simp,fun j oj _ o=>(by rw[getD_replicate_false]at o;cases o),fun t _ u=>getD_in (by simpa using u) (getD_replicate_false _ _)⟩
 have H:=zey (md:=.any) (g:=l.toArray.size-n) e x v s (l.take n) 0 _ a (fun j q=>by
  have k:j<n:=by rw[b]at q;exact q
  simp[k]) (by simpa using b) f (by rw[b];exact i) h
 refine wp_region_any hm ?_;have:=zc1 (Q':=Q) (g:=l.toArray.size-n) (fun c a' p m r=>by
  have:=wpAny_of_seq (md:=.any) (Q':=Q) (l.drop n) n c a' p (fun j=>by simp[List.getElem?_drop]) (by rw[d];exact r.1) (r.2 p m);rwa[d]at this) _ _ _ _ hC H
 rw[b,show n+(l.toArray.size-n)=l.toArray.size by omega]at this;exact this
end
theorem zbr {P:Program} {id:Nat} {Q:Exit->Act->World->Prop} {a:Act} {w:World} {l:List Oper} (n:Nat) (B:Nat) (w0:World) (hm:P.follows .mixedOrders=true) (hB:Region.lexTailB .any l.toArray n=true) (h0:Below B w0 w)
 (h:wpQuiet P l.toArray (fun W=>∃x:WB B w0,W=x.w) (fun a'=>∀W,(∃x:WB B w0,W=x.w)->wpList P l.toArray Q (l.drop n) a' W) (l.take n) a):(Code.region id l.toArray true).wp P Q a w:=
 zc0 (C:=fun W=>∃x:WB B w0,W=x.w) n hm hB ⟨⟨_,below_drewN h0 1⟩,rfl⟩ h
open _root_.Go.Proofs.Tryz
open _root_.Go.Lib (hid)
set_option maxRecDepth 100000
set_option maxHeartbeats 16000000
theorem zu7 {g:Nat} {w w1 w2:World} (h1:Below w.heap.size w w1) (h2:Kept1 g w1 w2):za9 w w2 (fun k=>k=g):=
 ⟨h2.os.trans h1.os,h2.tape.trans h1.tape,h2.output.trans h1.output,by rw[h2.size];exact h1.size,fun k a b=>(h2.block k b).trans (h1.block k a)⟩
theorem zc4 (mb:Nat) (A:Option Addr) (c:Nat) (root:Int) (vs:List NV) (ns:List Gr.Nd) (B:Nat) (hr:Gr.Refs ns) (hl:ns.length<=1073741823) (hks:∀n∈ns,n.keys.length<=1073741823/\n.items.length<=1073741823)
 (m:List Bool) (a:Nat) (w:World) (h:GAt w B A vs ns) (hB:B<=mb) (hm:Blk w mb 4 (bcells m)) (hml:m.length=ns.length) (ha:a<ns.length) (hu:Gr.unm ns.length m<=ns.length):
 Calls prog 27 #[.agg #[.slice A ns.length c,.int .i64 root],.int .i64 a,.slice (some ⟨mb,0,none⟩) ns.length ns.length] w fun e w'=>e=.returned (.tuple #[])/\za9 w w' (fun k=>k=mb)/\Blk w' mb 4 (bcells (Gr.dvisit (Gr.succ ns) ns.length m a)):=by
 have p:B<=w.heap.size:=Nat.le_trans hB (Nat.le_of_lt hm.lt);have H:=hid h;have t:=hid hm;clear h hm;go_enter func27,ntmps27;go_upto_region 3 with fail;obtain⟨d,b⟩:=ex (((w.alloc (.cells #[.slice A ns.length c,.int .i64 root] 24)).alloc (.cells #[.slice (some ⟨mb,0,none⟩) ns.length ns.length] 51)).alloc (.cells #[.func (.func 48) #[] #[.pointer (some ⟨w.heap.size+1,0,none⟩),.pointer (some ⟨w.heap.size,0,none⟩),.pointer (some ⟨w.heap.size+1+1,0,none⟩)]] 74))
 have j:Below w.heap.size w d:=by rw[<-b];exact(((Below.refl _ _).alloc (Nat.le_refl _) _).alloc (by simp) _).alloc (by simp;omega) _
 have s:Blk d w.heap.size 24 #[.slice A ns.length c,.int .i64 root]:=by rw[<-b];exact((Blk.new _ _ _).alloc _).alloc _
 have r:Blk d (w.heap.size+1) 51 #[.slice (some ⟨mb,0,none⟩) ns.length ns.length]:=by
  rw[<-b];have:=Blk.new (w.alloc (.cells #[.slice A ns.length c,.int .i64 root] 24)) 51 #[.slice (some ⟨mb,0,none⟩) ns.length ns.length];rw[World.size_alloc]at this;exact this.alloc _
 have l:Blk d (w.heap.size+1+1) 74 #[.func (.func 48) #[] #[.pointer (some ⟨w.heap.size+1,0,none⟩),.pointer (some ⟨w.heap.size,0,none⟩),.pointer (some ⟨w.heap.size+1+1,0,none⟩)]]:=by
  rw[<-b];have:=Blk.new ((w.alloc (.cells #[.slice A ns.length c,.int .i64 root] 24)).alloc (.cells #[.slice (some ⟨mb,0,none⟩) ns.length ns.length] 51)) 74 #[.func (.func 48) #[] #[.pointer (some ⟨w.heap.size+1,0,none⟩),.pointer (some ⟨w.heap.size,0,none⟩),.pointer (some ⟨w.heap.size+1+1,0,none⟩)]];rw[World.size_alloc,World.size_alloc]at this;exact this
 have v0:d.cell? ⟨w.heap.size+1+1,0,none⟩=some (.func (.func 48) #[] #[.pointer (some ⟨w.heap.size+1,0,none⟩),.pointer (some ⟨w.heap.size,0,none⟩),.pointer (some ⟨w.heap.size+1+1,0,none⟩)]):=l.cell 0;have f:RV d mb (w.heap.size+1) w.heap.size (w.heap.size+1+1) A c root vs ns B:=⟨r,s,l,H.out.below (j.mono p),hB⟩
 have v:=hid (zn5 mb (w.heap.size+1) w.heap.size (w.heap.size+1+1) A c root vs ns B hr hl hks ns.length m a d f (t.out.below j t.out.lt) hml ha hu);have u:=hid j;rw[b];clear b j s r l f;go_wp2_with fail;refine v.out.mono ?_;rintro e w5 ⟨rfl,g,i⟩;have q:=hid g;have o:=hid i;clear g i;go_wp2_with fail;go_end0;exact⟨rfl,zu7 u.out q.out,o.out⟩
open Gr
theorem zch (l:List Nat) (x:Nat):(cstep l x).length=l.length:=by unfold cstep;simp
theorem zb1 (L l:List Nat):(L.foldl cstep l).length=l.length:=by
 induction L generalizing l with
 |nil=>rfl
 |cons x L ih=>rw[List.foldl_cons,ih,zch]
theorem zef (l:List Nat) (x y:Nat):(cstep l x).getD y 0<=l.getD y 0+1:=by
 unfold cstep;by_cases h:x=y
 .subst h;by_cases hx:x<l.length
  .rw[za2 _ _ _ _ hx];exact Nat.le_refl _
  .rw[List.set_eq_of_length_le (by omega)];omega
 .rw[Gr.getD_set_ne _ _ _ _ _ h];omega
theorem zdi (L l:List Nat) (y:Nat):(L.foldl cstep l).getD y 0<=l.getD y 0+L.length:=by
 induction L generalizing l with
 |nil=>simp
 |cons x L ih=>
  rw[List.foldl_cons,List.length_cons];have:=ih (cstep l x);have:=zef l x y;omega
theorem zdj (ns:List Gr.Nd) (j:Nat) (h:j<ns.length):Gr.refs (ns.take (j+1))=Gr.refs (ns.take j)++(ns[j].keys++ns[j].items):=by
 unfold Gr.refs;rw[List.take_succ_eq_append_getElem h,List.flatMap_append];simp
theorem zu8 (ns:List Gr.Nd) (j:Nat):(Gr.refs (ns.take j)).length<=(Gr.refs ns).length:=by
 have:Gr.refs ns=Gr.refs (ns.take j)++Gr.refs (ns.drop j):=by
  unfold Gr.refs;rw[<-List.flatMap_append,List.take_append_drop]
 rw[this,List.length_append];omega
def ncells (n:Gr.Nd) (k i:SV):Array Value:=#[.int .i64 n.kind,.string ⟨n.text.toArray⟩,.bool n.ord,k.v,i.v]
theorem zlt (A:Option Addr) (c:Nat) (root:Nat) (vs:List NV) (ns:List Gr.Nd) (hr:Refs ns) (hl:ns.length<=1073741823) (hks:∀n∈ns,n.keys.length<=1073741823/\n.items.length<=1073741823) (hrl:(Gr.refs ns).length<=1125899906842624)
 (w:World) (h:GAt w w.heap.size A vs ns) (hroot:root<ns.length):
 Calls prog 29 #[.agg #[.slice A ns.length c,.int .i64 root]] w fun e w'=>∃ob,e=.returned (.slice (some ⟨ob,0,none⟩) ns.length ns.length)/\w.heap.size<=ob/\Below w.heap.size w w'/\Blk w' ob 3 (icells (counts ns root)):=by
 have H:=hid h;have hmk:=fun W=>za3 ns.length (by omega) W
 have am:(root:Int)<(ns.length:Int):=by omega
 clear h;go_enter func29,ntmps29;go_upto_region 2 with fail;obtain⟨N,C⟩:=ex ((w.alloc (.cells #[.slice A ns.length c,.int .i64 root] 24)).alloc (.cells (icells (List.replicate ns.length 0)) 3))
 have l2:Below w.heap.size w N:=by rw[<-C];exact((Below.refl _ _).alloc (Nat.le_refl _) _).alloc (by simp) _
 have bg:Blk N w.heap.size 24 #[.slice A ns.length c,.int .i64 root]:=by rw[<-C];exact(Blk.new _ _ _).alloc _
 have bo:Blk N (w.heap.size+1) 3 (icells (List.replicate ns.length 0)):=by
  rw[<-C];have:=Blk.new (w.alloc (.cells #[.slice A ns.length c,.int .i64 root] 24)) 3 (icells (List.replicate ns.length 0));rw[World.size_alloc]at this;exact this
 have g1:N.cell? ⟨w.heap.size,1,none⟩=some (.int .i64 root):=bg.cell 1;have z0:N.cell? ⟨w.heap.size+1,root,none⟩=some (.int .i64 0):=by
  rw[bo.cell,zab (by simpa using hroot)];simp[List.getD_eq_getElem?_getD,hroot]
 have zf:∀i,N.frozen? ⟨w.heap.size+1,i,none⟩=false:=bo.frozen;rw[C];clear C;go_upto_region 3 with fail;obtain⟨g,J⟩:=ex (cstep (List.replicate ns.length 0) root)
 obtain⟨S,z⟩:=ex (N.setCell ⟨w.heap.size+1,root,none⟩ (.int .i64 1))
 have b3:Blk S (w.heap.size+1) 3 (icells g):=by
  rw[<-z,<-J];unfold cstep;have e:(List.replicate ns.length 0).getD root 0=0:=by simp[List.getD_eq_getElem?_getD,hroot]
  rw[e,<-zam];exact bo.set_ root _
 have af:Blk S w.heap.size 24 #[.slice A ns.length c,.int .i64 root]:=by rw[<-z];exact bg.far (by simp) _
 have g0:S.cell? ⟨w.heap.size,0,none⟩=some (.slice A ns.length c):=af.cell 0;have L3:Hid (Below w.heap.size w S):=hid (by rw[<-z];exact l2.setCell (by simp) _);have G:Hid (g.length=ns.length/\∀x,g.getD x 0<=1):=hid (by
  rw[<-J];refine⟨by rw[zch];simp,fun x=>?_⟩;have:=zef (List.replicate ns.length 0) root x;have e:(List.replicate ns.length 0).getD x 0=0:=by simp[List.getD_eq_getElem?_getD,List.getElem?_replicate];split<;>rfl
  omega)
 have ag:Hid (counts ns root=(Gr.refs ns).foldl cstep g):=hid (by rw[<-J];rfl);have ac:=hid b3;rw[z];obtain⟨ob,ab⟩:=ex (w.heap.size+1)
 rw[ab]at ac ⊢;have m:Hid (w.heap.size<=ob/\w.heap.size<=S.heap.size):=hid ⟨by omega,L3.out.size⟩;clear z l2 bg bo g1 z0 zf b3 af ab J;go_upto_region 4 with fail;clear g0 am;go_loopw [24] (fun s24 wr=>∃j:Nat,j<=ns.length/\s24=.int .i64 j/\Hid (KB ob S wr/\Blk wr ob 3 (icells ((Gr.refs (ns.take j)).foldl cstep g)))) (fun s24 _=>ns.length-(intOf s24).toNat)
 case atStart=>exact⟨0,by omega,rfl,hid ⟨KB.refl _ _,by simpa[Gr.refs]using ac.out⟩⟩
 case round=>
  obtain⟨j,hj,rfl,X⟩:=hrel;obtain⟨f,av⟩:∃f,f=wr:=⟨_,rfl⟩
  subst av;by_cases hlt:j<ns.length
  .have ae:(j:Int)<(ns.length:Int):=by omega
   obtain⟨ad,k,i,rfl,t⟩:=(H.out.below (L3.out.trans (X.out.1.below m.out.1 m.out.2))).node hlt;obtain⟨ka,kn,kc⟩:=k;obtain⟨Y,aj,Z⟩:=i;have Q:ns[j]∈ns:=List.getElem_mem hlt;obtain⟨al,ah⟩:=hks _ Q;have U:Hid (∀x∈ns[j].keys++ns[j].items,x<ns.length):=hid (hr _ Q);obtain⟨R,hR⟩:=ex (Gr.refs (ns.take j))
   have ao:=hid hR;have r:Hid (Gr.refs (ns.take (j+1))=R++(ns[j].keys++ns[j].items)):=hid (by rw[zdj ns j hlt,hR]);have p:Hid (R.length+ns[j].keys.length+ns[j].items.length<=1125899906842624):=hid (by
    have h1:=zu8 ns (j+1);rw[r.out]at h1;simp only[List.length_append]at h1;omega)
   obtain⟨n,hn⟩:=ex (ns[j])
   rw[hn]at t U r p al ah;obtain rfl:kn=n.keys.length:=t.kn;obtain rfl:aj=n.items.length:=t.inn;have x0:=t.c0;have x1:=t.c1;have x2:=t.c2;have x3:=t.c3;have x4:=t.c4;have an:=hid t.keys;have ai:=hid t.items;have E:Hid (w.heap.size<=ob/\w.heap.size<=f.heap.size):=hid ⟨m.out.1,Nat.le_trans m.out.2 X.out.1.size⟩;clear t Q hR hn;go_upto_region 6 with fail;obtain⟨w5,B⟩:=ex (f.alloc (.cells #[.int .i64 n.kind,.string ⟨n.text.toArray⟩,.bool n.ord,.slice ka n.keys.length kc,.slice Y n.items.length Z] 38))
   have b5:Blk w5 f.heap.size 38 (ncells n ⟨ka,n.keys.length,kc⟩ ⟨Y,n.items.length,Z⟩):=by rw[<-B];exact Blk.new _ _ _
   have s3:w5.cell? ⟨f.heap.size,3,none⟩=some (.slice ka n.keys.length kc):=b5.cell 3;have s:Hid (KB ob f w5/\Blk w5 ob 3 (icells (R.foldl cstep g))/\Blk w5 f.heap.size 38 (ncells n ⟨ka,n.keys.length,kc⟩ ⟨Y,n.items.length,Z⟩)):=hid ⟨by rw[<-B];exact(KB.refl _ _).alloc _,by
    have:=X.out.2;rw[ao.out]at this;rw[<-B];exact this.alloc _,b5⟩
   rw[B];obtain⟨l,y⟩:=ex (ncells n ⟨ka,n.keys.length,kc⟩ ⟨Y,n.items.length,Z⟩)
   have ar:Hid (l[4]? =some (.slice Y n.items.length Z)):=hid (by rw[<-y];rfl);rw[y]at s;clear y;obtain⟨M,aa⟩:=ex f.heap.size
   rw[aa]at s s3 ⊢;clear B b5 x0 x1 x2 x3 x4 aa;go_upto_region 7 with fail;clear s3;go_loopw [31] (fun s31 wr=>∃k:Nat,k<=n.keys.length/\s31=.int .i64 k/\Hid (KB ob f wr/\Blk wr ob 3 (icells ((R++n.keys.take k).foldl cstep g))/\Blk wr M 38 l)) (fun s31 _=>n.keys.length-(intOf s31).toNat)
   case atStart=>exact⟨0,by omega,rfl,hid ⟨s.out.1,by simpa using s.out.2.1,s.out.2.2⟩⟩
   case round=>
    obtain⟨k,hk,rfl,b⟩:=hrel;by_cases hlk:k<n.keys.length
    .have o:(k:Int)<(n.keys.length:Int):=by omega
     obtain⟨x,I⟩:=ex (n.keys[k])
     obtain⟨ap,rfl,_,y0⟩:=zaf (an.out.below (b.out.1.below E.out.1 E.out.2)) hlk;rw[I]at y0;have aq:x<ns.length:=U.out x (by simp[<-I]);obtain⟨d,a⟩:=ex ((R++n.keys.take k).foldl cstep g)
     have O:d.length=ns.length:=by rw[<-a,zb1,G.out.1]
     have T:d.getD x 0<=1125899906842625:=by
      rw[<-a];have h1:=zdi (R++n.keys.take k) g x;have h2:=G.out.2 x;have h3:=p.out;rw[List.length_append,List.length_take]at h1;omega
     have au:k<=1073741823:=by omega
     have q:=b.out.2.1;rw[a]at q;obtain⟨v,F⟩:=ex (d.getD x 0)
     have z0:wr.cell? ⟨ob,x,none⟩=some (.int .i64 (v:Int)):=by rw[q.cell,zab (by omega),F]
     have zf:∀i,wr.frozen? ⟨ob,i,none⟩=false:=q.frozen;have ak:(x:Int)<(ns.length:Int):=by omega
     rw[F]at T;have V:Hid (KB ob f (wr.setCell ⟨ob,x,none⟩ (.int .i64 ((v:Int)+1)))/\Blk (wr.setCell ⟨ob,x,none⟩ (.int .i64 ((v:Int)+1))) ob 3 (icells ((R++n.keys.take (k+1)).foldl cstep g))/\Blk (wr.setCell ⟨ob,x,none⟩ (.int .i64 ((v:Int)+1))) M 38 l):=hid (by
      refine⟨b.out.1.set _ _,?_,b.out.2.2.far (b.out.2.2.ne_ q (by decide)) _⟩;rw[zai _ _ hlk,<-List.append_assoc,List.foldl_append,a,I];show Blk _ _ _ (icells (cstep d x));unfold cstep;rw[F,<-zam,show(((v+1:Nat)):Int)=(v:Int)+1 from by omega];exact q.set_ x _)
     clear q a O F I b;go_wp2;go_roundw
     case rel=>exact⟨k+1,by omega,by go_num,V⟩
     case measure=>simp[intOf];omega
    .have o:¬((k:Int)<(n.keys.length:Int)):=by omega
     have u:Hid (KB ob f wr/\Blk wr ob 3 (icells ((R++n.keys).foldl cstep g))/\Blk wr M 38 l):=hid ⟨b.out.1,by have:=b.out.2.1;rw[show k=n.keys.length from by omega,List.take_length]at this;exact this,b.out.2.2⟩;clear b s;obtain⟨P,D⟩:=ex (R++n.keys)
     have s:=hid u.out;rw[D]at s;have K:Hid (P.length+n.items.length<=1125899906842624):=hid (by rw[<-D,List.length_append];have:=p.out;omega);have L:Hid (Gr.refs (ns.take (j+1))=P++n.items):=hid (by rw[r.out,<-D,List.append_assoc]);clear p r D u hk hlk;have r:=L;have p:=K;clear K L;have s4:wr.cell? ⟨M,4,none⟩=some (.slice Y n.items.length Z):=(s.out.2.2.cell 4).trans ar.out;go_upto_region 12 with fail;clear s4 o;go_loopw [45] (fun s45 wr=>∃k:Nat,k<=n.items.length/\s45=.int .i64 k/\Hid (KB ob f wr/\Blk wr ob 3 (icells ((P++n.items.take k).foldl cstep g))/\Blk wr M 38 l)) (fun s45 _=>n.items.length-(intOf s45).toNat)
     case atStart=>exact⟨0,by omega,rfl,hid ⟨s.out.1,by simpa using s.out.2.1,s.out.2.2⟩⟩
     case round=>
      obtain⟨k,hk,rfl,b⟩:=hrel;by_cases hlk:k<n.items.length
      .have o:(k:Int)<(n.items.length:Int):=by omega
       obtain⟨x,I⟩:=ex (n.items[k])
       obtain⟨ap,rfl,_,y0⟩:=zaf (ai.out.below (b.out.1.below E.out.1 E.out.2)) hlk;rw[I]at y0;have aq:x<ns.length:=U.out x (by simp[<-I]);obtain⟨d,a⟩:=ex ((P++n.items.take k).foldl cstep g)
       have O:d.length=ns.length:=by rw[<-a,zb1,G.out.1]
       have T:d.getD x 0<=1125899906842625:=by
        rw[<-a];have h1:=zdi (P++n.items.take k) g x;have h2:=G.out.2 x;have h3:=p.out;rw[List.length_append,List.length_take]at h1;omega
       have au:k<=1073741823:=by omega
       have q:=b.out.2.1;rw[a]at q;obtain⟨v,F⟩:=ex (d.getD x 0)
       have z0:wr.cell? ⟨ob,x,none⟩=some (.int .i64 (v:Int)):=by rw[q.cell,zab (by omega),F]
       have zf:∀i,wr.frozen? ⟨ob,i,none⟩=false:=q.frozen;have ak:(x:Int)<(ns.length:Int):=by omega
       rw[F]at T;have V:Hid (KB ob f (wr.setCell ⟨ob,x,none⟩ (.int .i64 ((v:Int)+1)))/\Blk (wr.setCell ⟨ob,x,none⟩ (.int .i64 ((v:Int)+1))) ob 3 (icells ((P++n.items.take (k+1)).foldl cstep g))/\Blk (wr.setCell ⟨ob,x,none⟩ (.int .i64 ((v:Int)+1))) M 38 l):=hid (by
        refine⟨b.out.1.set _ _,?_,b.out.2.2.far (b.out.2.2.ne_ q (by decide)) _⟩;rw[zai _ _ hlk,<-List.append_assoc,List.foldl_append,a,I];show Blk _ _ _ (icells (cstep d x));unfold cstep;rw[F,<-zam,show(((v+1:Nat)):Int)=(v:Int)+1 from by omega];exact q.set_ x _)
       clear q a O F I b;go_wp2;go_roundw
       case rel=>exact⟨k+1,by omega,by go_num,V⟩
       case measure=>simp[intOf];omega
      .have o:¬((k:Int)<(n.items.length:Int)):=by omega
       have u:Hid (KB ob f wr/\Blk wr ob 3 (icells ((P++n.items).foldl cstep g))/\Blk wr M 38 l):=hid ⟨b.out.1,by have:=b.out.2.1;rw[show k=n.items.length from by omega,List.take_length]at this;exact this,b.out.2.2⟩;clear b s;have HE:Hid (KB ob S wr/\Blk wr ob 3 (icells ((Gr.refs (ns.take (j+1))).foldl cstep g))):=hid ⟨X.out.1.trans u.out.1,by have:=u.out.2.1;rw[r.out];exact this⟩;clear hk;go_wp2;go_roundw
       case rel=>exact⟨j+1,by omega,by go_num,HE⟩
       case measure=>simp[intOf];omega
  .have ae:¬((j:Int)<(ns.length:Int)):=by omega
   have HE:Hid (Below w.heap.size w f/\Blk f ob 3 (icells (counts ns root))):=hid ⟨L3.out.trans (X.out.1.below m.out.1 m.out.2),by
    have:=X.out.2;rw[show j=ns.length from by omega,List.take_length]at this;rw[ag.out];exact this⟩
   clear X;go_wp2;go_ret;exact⟨ob,rfl,m.out.1,HE.out⟩
theorem zui (s:Gr.Str) (k:Nat) (i:Int) (hi:i=k) (h:k<=s.length) (W:World):(Instr.slice 9 (.string ⟨s.toArray⟩) none (some (.int .i64 i)) none).run prog W=.ok (.string ⟨(s.take k).toArray⟩) W:=by
 subst hi;rw[run_slice_string_h (P:=prog) W 9 ⟨s.toArray⟩ underlying9 .i64 k (by omega) (by simp[ByteArray.size];omega)]
 congr 2
 apply ByteArray.ext;simp
theorem zxs (s:Gr.Str) (k:Nat) (i:Int) (hi:i=k) (h:k<=s.length) (W:World):(Instr.slice 9 (.string ⟨s.toArray⟩) (some (.int .i64 i)) none none).run prog W=.ok (.string ⟨(s.drop k).toArray⟩) W:=by
 subst hi;rw[run_slice_string_l (P:=prog) W 9 ⟨s.toArray⟩ underlying9 .i64 k (by omega) (by simp[ByteArray.size];omega)]
 congr 2
 apply ByteArray.ext;simp[ByteArray.size];rw[List.take_of_length_le (by simp)]
theorem zvt (a b:Gr.Str):(⟨a.toArray⟩:ByteArray)++⟨b.toArray⟩=⟨(a++b).toArray⟩:=by
 apply ByteArray.ext;simp
theorem zad (a b:Gr.Str) (h:a.length+b.length<=9223372036854775807) (W:World):(Op.stringOp .add ⟨a.toArray⟩ ⟨b.toArray⟩).run prog W=.ok (.string ⟨(a++b).toArray⟩) W:=by
 rw[run_string_add_sum (P:=prog) (w:=W) ⟨a.toArray⟩ ⟨b.toArray⟩ (by simpa[ByteArray.size]using h),zvt]
theorem zpd (a b:Gr.Str):((⟨a.toArray⟩:ByteArray)==⟨b.toArray⟩)=decide (a=b):=by
 show(a.toArray==b.toArray)=_;rw[Bool.eq_iff_iff];simp
theorem zck (f:Nat) (w:World):(callFunc 119 #[.float .f64 f]).run prog w=.ok (.value (.int .u64 f)) w:=by
 rw[run_callFunc_extern func119 (by kernel_rfl) (by kernel_rfl) (by kernel_rfl) (e:=Extern.MathFloatBits.float64bits) (by kernel_rfl)];rfl
theorem za0 (n:Int) (w:World):(callFunc 109 #[.int .u64 n]).run prog w=.ok (.value (.float .f64 n.toNat)) w:=by
 rw[run_callFunc_extern func109 (by kernel_rfl) (by kernel_rfl) (by kernel_rfl) (e:=Extern.MathFloatBits.float64frombits) (by kernel_rfl)];rfl
theorem zgx (f:Nat) (hf:f<9223372036854775808) (w:World):Calls prog 148 #[.float .f64 f] w fun e w'=>e=.returned (.float .f64 f)/\w=w':=by
 have c1:=fun W=>zck f W
 have c2:=fun W=>za0 (f:Int) W
 have c3:=zjq f hf;go_enter func148,ntmps148;go_wp2;go_ret;exact⟨rfl,rfl⟩
theorem zpa (f:Nat) (hf:f<9223372036854775808) (w:World):Calls prog 115 #[.float .f64 f] w fun e w'=>e=.returned (.bool false)/\w=w':=by
 have c1:=fun W=>zck f W
 have h0:(0:Int)<=(f:Int):=by omega
 have h1:(f:Int)<=9223372036854775807:=by omega
 have h2:IntKind.i64.wrap (f:Int)=(f:Int):=IntWalk.i64_in _ (by omega);have h3:decide ((f:Int)<0)=false:=by simp
 go_enter func115,ntmps115;go_wp2;go_ret;exact⟨rfl,rfl⟩
theorem zkx (f:Nat) (hf:f<9223372036854775808) (ho:(FloatKind.f64.format.order f 9218868437227405311==some Ordering.gt)=false) (w:World):Calls prog 116 #[.float .f64 f,.int .i64 0] w fun e w'=>e=.returned (.bool false)/\w=w':=by
 have a:=hid (fun W=>zgx f hf W);go_enter func116,ntmps116;go_wp2_with fail;refine(a.out _).mono ?_;rintro e w1 ⟨rfl,rfl⟩;go_wp2;go_ret;exact⟨rfl,rfl⟩
theorem zsr (f:Nat) (ho:(FloatKind.f64.format.order f f != some Ordering.eq)=false) (w:World):Calls prog 146 #[.float .f64 f] w fun e w'=>e=.returned (.bool false)/\w=w':=by
 go_enter func146,ntmps146;go_wp2;go_ret;exact⟨rfl,rfl⟩
theorem zpb (f:Nat) (hf:f<9223372036854775808) (ho:(FloatKind.f64.format.order f 4503599627370496==some Ordering.lt)=false) (w:World):Calls prog 147 #[.float .f64 f] w fun e w'=>e=.returned (.tuple #[.float .f64 f,.int .i64 0])/\w=w':=by
 have a:=hid (fun W=>zgx f hf W);go_enter func147,ntmps147;go_wp2_with fail;refine(a.out _).mono ?_;rintro e w1 ⟨rfl,rfl⟩;go_wp2;go_ret2;exact⟨rfl,rfl⟩
namespace Flt
section
variable {m L:Nat} {e:Int}
theorem Fits.o_max (h:Fits m L e):(FloatKind.f64.format.order (fw m L e) 9218868437227405311==some Ordering.gt)=false:=by
 show(Ieee.double.order (fw m L e) 9218868437227405311==some Ordering.gt)=false;rcases h.order_max with h1|h1<;>rw[h1]<;>rfl
theorem Fits.o_self (h:Fits m L e):(FloatKind.f64.format.order (fw m L e) (fw m L e) != some Ordering.eq)=false:=by
 show(Ieee.double.order (fw m L e) (fw m L e) != some Ordering.eq)=false;rw[h.order_self];rfl
theorem Fits.o_zero (h:Fits m L e):(FloatKind.f64.format.order (fw m L e) 0==some Ordering.eq)=false:=by
 show(Ieee.double.order (fw m L e) 0==some Ordering.eq)=false;rw[h.order_zero];rfl
theorem Fits.at0 (h:Fits m L e):Fits m L 0:=⟨h.odd,h.lo,h.hi,h.len,by omega,by have:=h.len;omega⟩
theorem Fits.o_norm (h:Fits m L 0):(FloatKind.f64.format.order (fw m L 0) 4503599627370496==some Ordering.lt)=false:=by
 show(Ieee.double.order (fw m L 0) 4503599627370496==some Ordering.lt)=false;obtain⟨a,b,c,d,f⟩:=h.sig_bd;have hlen:=h.len;have hlp:lastP L 0=(L:Int)-52:=by unfold lastP;omega
 have c2:4503599627370496<=sig m L 0:=by rcases c with c|c<;>omega
 unfold Ieee.Format.order;have g:Ieee.double.read 4503599627370496=.number false 4503599627370496 (-1074):=by decide
 rw[h.read,g];simp only[Ieee.Datum.order,Ieee.signed,Bool.false_eq_true,if_false];rw[show min (lastP L 0) (-1074)=-1074 from by omega,show((-1074:Int)- -1074).toNat=0 from rfl,Nat.shiftLeft_zero,Nat.shiftLeft_eq];have:sig m L 0<=sig m L 0*2 ^ (lastP L 0- -1074).toNat:=Nat.le_mul_of_pos_right _ (Nat.two_pow_pos _);generalize sig m L 0*2 ^ (lastP L 0- -1074).toNat=N at this;simp only[compare,compareOfLessAndEq];rw[if_neg (by omega)];split<;>rfl
theorem Fits.fw0 (h:Fits m L 0):fw m L 0=(L+1022)*4503599627370496+m*2 ^ (52-L):=by
 have hlen:=h.len;have a:lastP L 0=(L:Int)-52:=by unfold lastP;omega
 unfold fw sig;rw[a,show((L:Int)-52+1074).toNat=L+1022 from by omega,show(0-((L:Int)-52)).toNat=52-L from by omega]
theorem Fits.parts0 (h:Fits m L 0):fw m L 0 /4503599627370496=L+1023/\fw m L 0%4503599627370496=m*2 ^ (52-L)-4503599627370496:=by
 obtain⟨f1,f2⟩:=h.full;rw[h.fw0];omega
end
end Flt
open Flt in
theorem zpc (m L:Nat) (e:Int) (h:Flt.Fits m L e) (f:Nat) (hf:fw m L 0=f) (w:World):Calls prog 114 #[.float .f64 f,.int .i64 e] w fun r w'=>r=.returned (.float .f64 (fw m L e))/\w=w':=by
 have a:=h.at0;have l:=a.fw_lt.2;have t:=a.o_zero;have s:=hid (fun W=>zkx f (by omega) (by rw[<-hf];exact a.o_max) W);have p:=hid (fun W=>zsr f (by rw[<-hf];exact a.o_self) W);have n:=hid (fun W=>zpb f (by omega) (by rw[<-hf];exact a.o_norm) W);obtain⟨k,i⟩:=a.parts0;rw[hf]at t k i l;have c1:=fun W=>zck f W
 have hlen:=h.len;have he0:=h.e0;have he1:=h.e1;have o:=hid h;have i1:(f:Int) /4503599627370496=(L:Int)+1023:=by omega
 have i2:IntKind.i64.wrap ((L:Int)+1023)=(L:Int)+1023:=IntWalk.i64_in _ (by omega);have i3:bits .and .i64 ((L:Int)+1023) 2047=(L:Int)+1023:=by have:=zvs (L+1023) (by omega);simpa using this
 have q:bits .andNot .u64 (f:Int) 9218868437227405312=((m*2 ^ (52-L)-4503599627370496:Nat):Int):=by rw[zmh f (by omega),i]
 have g:m*2 ^ (52-L)-4503599627370496<4503599627370496:=by omega
 by_cases hn:-1022<=e+L
 .obtain⟨X,c⟩:=ex ((e+L+1023).toNat*4503599627370496+(m*2 ^ (52-L)-4503599627370496))
  have b:=o.out.mul_one hn;have j:bits .or .u64 ((m*2 ^ (52-L)-4503599627370496:Nat):Int) ((e+(L:Int)+1023)*4503599627370496)=(X:Int):=by
   have:=zo9 (m*2 ^ (52-L)-4503599627370496) (e+L+1023).toNat g (by omega);rw[c]at this;rw[show(e+(L:Int)+1023)*4503599627370496=(((e+L+1023).toNat*4503599627370496:Nat):Int)from by omega];exact this
  rw[c]at b;have v:=fun W=>za0 (X:Int) W
  have u:=fun W=>run_float_arith (P:=prog) (w:=W) .mul 89 .f64 4607182418800017408 X (fw m L e) b
  obtain⟨Q,d⟩:=ex (m*2 ^ (52-L)-4503599627370496)
  rw[d]at q j;clear h a hf k i g c b d;go_enter func114,ntmps114;go_wp2_with (first| ((with_reducible refine(s.out _).mono ?_);rintro _ _ ⟨rfl,rfl⟩)| ((with_reducible refine(p.out _).mono ?_);rintro _ _ ⟨rfl,rfl⟩)| ((with_reducible refine(n.out _).mono ?_);rintro _ _ ⟨rfl,rfl⟩));go_ret;exact⟨rfl,rfl⟩
 .obtain⟨X,c⟩:=ex ((e+L+1076).toNat*4503599627370496+(m*2 ^ (52-L)-4503599627370496))
  have b:=o.out.mul_small (by omega);have j:bits .or .u64 ((m*2 ^ (52-L)-4503599627370496:Nat):Int) ((e+(L:Int)+53+1023)*4503599627370496)=(X:Int):=by
   have:=zo9 (m*2 ^ (52-L)-4503599627370496) (e+L+1076).toNat g (by omega);rw[c]at this;rw[show(e+(L:Int)+53+1023)*4503599627370496=(((e+L+1076).toNat*4503599627370496:Nat):Int)from by omega];exact this
  rw[c]at b;have v:=fun W=>za0 (X:Int) W
  have u:=fun W=>run_float_arith (P:=prog) (w:=W) .mul 89 .f64 4368491638549381120 X (fw m L e) b
  obtain⟨Q,d⟩:=ex (m*2 ^ (52-L)-4503599627370496)
  rw[d]at q j;clear h a hf k i g c b d;go_enter func114,ntmps114;go_wp2_with (first| ((with_reducible refine(s.out _).mono ?_);rintro _ _ ⟨rfl,rfl⟩)| ((with_reducible refine(p.out _).mono ?_);rintro _ _ ⟨rfl,rfl⟩)| ((with_reducible refine(n.out _).mono ?_);rintro _ _ ⟨rfl,rfl⟩));go_ret;exact⟨rfl,rfl⟩
end Go.Proofs.YtpgmfihonmoliaaGreatDoor

import Derived.Test.YtpjmhafmeieloabGreatDoorZ01
import Derived.StillTail
namespace Go.Proofs.YtpjmhafmeieloabGreatDoor
open Go.RowKit
structure WB (B:Nat) (w0:World) where
 w:World
 h:Below B w0 w
instance WB.inst (B:Nat) (w0:World):Nonempty (WB B w0):=⟨⟨w0,Below.refl _ _⟩⟩
theorem zab {P:Program} {id:Nat} {Q:Exit->Act->World->Prop} {a:Act} {w:World} {l:List Oper} (B:Nat) (w0:World) (hm:P.follows .mixedOrders=true) (hB:Region.lexB .any l.toArray=true) (h0:Below B w0 w)
 (h:wpQuiet P l.toArray (fun W=>∃x:WB B w0,W=x.w) (fun a'=>∀W,(∃x:WB B w0,W=x.w)->Q .normal a' W) l a):(Code.region id l.toArray true).wp P Q a w:=
 wp_region_quiet (C:=fun W=>∃x:WB B w0,W=x.w) hm hB ⟨⟨_,below_drewN h0 1⟩,rfl⟩ (by simpa using h)
theorem Calls.grow {P:Program} {f:FuncId} {args:Array Value} {B:Nat} {w0:World} {x:WB B w0} {v:Value} (h:Calls P f args x.w fun e w'=>e=.returned v/\Below B w0 w'):
 Calls P f args x.w fun e w''=>e=.returned v/\∃y:WB B w0,w''=y.w:=h.mono fun _ _ ⟨a,b⟩=>⟨a,⟨_,b⟩,rfl⟩
section
variable {P:Program} {ops:Array Oper} {md:Region.Mode} {C:World->Prop}
def wpAnyLQ (P:Program) (md:Region.Mode) (ops:Array Oper) (C:World->Prop) (n:Nat) (L:Array Bool->Act->Prop):Nat->Array Bool->Act->Prop
 | 0,listed,a=>L listed a
 |f+1,listed,a=>Region.ready md ops listed≠[]/\∀i∈Region.ready md ops listed,i<n/\qOp P ops C i (wpAnyLQ P md ops C n L f (listed.setIfInBounds i true)) a
theorem zc0 {n g:Nat} {L:Array Bool->Act->Prop} {Q':Exit->Act->World->Prop} (hL:∀listed a w,C w->L listed a->wpAny P md ops Q' g listed a w):
 ∀(f:Nat) (listed:Array Bool) (a:Act) (w:World),C w->wpAnyLQ P md ops C n L f listed a->wpAny P md ops Q' (f+g) listed a w
 | 0,listed,a,w,hC,h=>by rw[Nat.zero_add];exact hL _ _ _ hC h
 |f+1,listed,a,w,hC,h=>by
  rw[show f+1+g=(f+g)+1 by omega];exact⟨fun k=>absurd k h.1,fun i d=>wpOp_of_qOp hC (fun j e b c=>zc0 hL f _ j e b c) (h.2 i d).2⟩
theorem zgt {n i:Nat} {oi:Oper} {v:Value} {L:Array Bool->Act->Prop} (hi:ops[i]? =some oi) (hsel:∀(j:Nat) (o:Oper) cs b,ops[j]? =some o->o.op≠.select cs b)
 (hs:Region.sinkB md ops n=true) (hc:Region.chainB md ops n=true) (hn:n<ops.size) (hin:i<n)
 (hdone:∀listed a,L listed a->∀j∈Region.ready md ops listed,n<=j):
 ∀(f:Nat) (listed:Array Bool) (a:Act),HeadInv md ops n listed->
  (∀j oj,ops[j]? =some oj->j≠i->listed.getD j true=false->(∀e∈oj.after,Region.binds md e=true->e.on≠i)->oi.apart ops oj=true)->
  i∈Region.ready md ops listed->YieldsIn P ops C oi v a->
  wpAnyLQ P md ops C n L f (listed.setIfInBounds i true) (a.put oi.dst v)->wpAnyLQ P md ops C n L (f+1) listed a:=by
 intro f
 induction f with
 |zero=>
  intro listed a m _ p u H;have c:=(mem_ready.1 p).1;refine⟨fun h=>(by rw[h]at p;cases p),fun j s=>?_⟩;have g:j<n:=by
   rcases Nat.lt_or_ge j n with h|h
   .exact h
   .exact absurd s (tail_waits hs hc hn m _ i rfl hin c j h)
  refine⟨g,?_⟩;by_cases hji:j=i
  .subst hji;exact u.qOp hi H
  .have:=hdone _ _ H j (ready_mono s hji);omega
 |succ f ih=>
  intro listed a m d p u H;have c:=(mem_ready.1 p).1;refine⟨fun h=>(by rw[h]at p;cases p),fun j s=>?_⟩;have g:j<n:=by
   rcases Nat.lt_or_ge j n with h|h
   .exact h
   .exact absurd s (tail_waits hs hc hn m _ i rfl hin c j h)
  refine⟨g,?_⟩;by_cases hji:j=i
  .subst hji;exact u.qOp hi H
  .have D:=(H.2 j (ready_mono s hji)).2;obtain⟨q,oj,r,hall⟩:=mem_ready.1 s;have t:∀e∈oj.after,Region.binds md e=true->e.on≠i:=fun e he hb heq=>by
    grind
   have z:=qOp_put r (d j oj r hji q t) (fun cs b=>hsel i oi cs b hi) (fun cs b=>hsel j oj cs b r) u D;have l:∀k ok,ops[k]? =some ok->k≠i->(listed.setIfInBounds j true).getD k true=false->
    (∀e∈ok.after,Region.binds md e=true->e.on≠i)->oi.apart ops ok=true:=fun k ok A w c x=>by
    refine d k ok A w ?_ x;by_cases hjk:j=k
    .subst hjk;exact q
    .rw[getD_set_ne true hjk]at c;exact c
   refine qOp_mono (fun B y=>ih (listed.setIfInBounds j true) B (m.set s g) l (ready_mono p (Ne.symm hji)) y.1 ?_) z;rw[Array.setIfInBounds_comm _ _ hji];exact y.2
theorem ze0 {n g:Nat} {Lq:Act->Prop} (hsel:Region.noSelect ops=true) (hs:Region.sinkB md ops n=true) (hc:Region.chainB md ops n=true) (hn:n<ops.size):
 ∀(l:List Oper) (k:Nat) (listed:Array Bool) (a:Act),(∀j,j<l.length->l[j]? =ops[k+j]?)->k+l.length=n->HeadInv md ops n listed->
 Region.lexHead md ops g l.length k listed=true->wpQuiet P ops C Lq l a->
 wpAnyLQ P md ops C n (fun listed' a'=>Region.seqB md ops g n listed'=true/\Lq a') l.length listed a
 | [],k,listed,a,_,hk,_,hB,h=>by
  have:k=n:=by simpa using hk
  subst this;exact⟨by simpa[Region.lexHead]using hB,h⟩
 |o::l,k,listed,a,hl,hk,inv,hB,h=>by
  have d:ops[k]? =some o:=by simpa using(hl 0 (by simp)).symm
  simp only[List.length_cons,Region.lexHead,Bool.and_eq_true]at hB;obtain⟨⟨i,q⟩,e⟩:=hB;have b:k<n:=by simp only[List.length_cons]at hk;omega
  have c:k∈Region.ready md ops listed:=by simpa using i
  have f:qOp P ops C k (wpQuiet P ops C Lq l) a:=by unfold qOp;simp only[d];exact h
  obtain⟨v,p,m⟩:=yieldsIn_of_qOp d f;exact zgt d (Region.noSelect_spec hsel) hs hc hn b (fun listed' a' r=>seqB_ready r.1) l.length listed a inv (Region.free_spec d q) c p
   (ze0 hsel hs hc hn l (k+1) _ _ (fun j hj=>by have:=hl (j+1) (by simp;omega);simpa[Nat.add_assoc,Nat.add_comm 1 j]using this) (by simp only[List.length_cons]at hk;omega) (inv.set c b) e m)
theorem zcy {id:Nat} {Q:Exit->Act->World->Prop} {a:Act} {w:World} {l:List Oper} (n:Nat) (hm:P.follows .mixedOrders=true) (hB:Region.lexTailB .any l.toArray n=true) (hC:C {w with drawn:=w.drawn+1})
 (h:wpQuiet P l.toArray C (fun a'=>∀W,C W->wpList P l.toArray Q (l.drop n) a' W) (l.take n) a):(Code.region id l.toArray true).wp P Q a w:=by
 simp only[Region.lexTailB,Bool.and_eq_true,decide_eq_true_eq]at hB;obtain⟨⟨⟨⟨d,o⟩,u⟩,x⟩,f⟩:=hB;have hn':n<l.length:=by simpa using o
 have b:(l.take n).length=n:=by simp;omega
 have e:(l.drop n).length=l.toArray.size-n:=by simp
 have i:HeadInv .any l.toArray n (Array.replicate l.toArray.size false):=
  ⟨by simp,fun j oj _ r=>(by rw[getD_replicate_false]at r;cases r),fun t _ v=>getD_in (by simpa using v) (getD_replicate_false _ _)⟩
 have H:=ze0 (md:=.any) (g:=l.toArray.size-n) d u x o (l.take n) 0 _ a (fun j s=>by
  have k:j<n:=by rw[b]at s;exact s
  simp[k]) (by simpa using b) i (by rw[b];exact f) h
 refine wp_region_any hm ?_;have:=zc0 (Q':=Q) (g:=l.toArray.size-n) (fun c a' q m p=>by
  have:=wpAny_of_seq (md:=.any) (Q':=Q) (l.drop n) n c a' q (fun j=>by simp[List.getElem?_drop]) (by rw[e];exact p.1) (p.2 q m);rwa[e]at this) _ _ _ _ hC H
 rw[b,show n+(l.toArray.size-n)=l.toArray.size by omega]at this;exact this
end
theorem zbt {P:Program} {id:Nat} {Q:Exit->Act->World->Prop} {a:Act} {w:World} {l:List Oper} (n:Nat) (B:Nat) (w0:World) (hm:P.follows .mixedOrders=true) (hB:Region.lexTailB .any l.toArray n=true) (h0:Below B w0 w)
 (h:wpQuiet P l.toArray (fun W=>∃x:WB B w0,W=x.w) (fun a'=>∀W,(∃x:WB B w0,W=x.w)->wpList P l.toArray Q (l.drop n) a' W) (l.take n) a):(Code.region id l.toArray true).wp P Q a w:=
 zcy (C:=fun W=>∃x:WB B w0,W=x.w) n hm hB ⟨⟨_,below_drewN h0 1⟩,rfl⟩ h
open Gr
open _root_.Go.Proofs.Tryz
open _root_.Go.Lib (hid)
set_option maxRecDepth 100000
set_option maxHeartbeats 16000000
theorem zaj (l:List Nat) (k:Nat) (h:k<l.length):l.take (k+1)=l.take k++[l[k]]:=List.take_succ_eq_append_getElem h
structure RV (w:World) (mb bm bg bv:Nat) (A:Option Addr) (c:Nat) (root:Int) (vs:List NV) (ns:List Gr.Nd) (B:Nat):Prop where
 m:Blk w bm 54 #[.slice (some ⟨mb,0,none⟩) ns.length ns.length]
 g:Blk w bg 27 #[.slice A ns.length c,.int .i64 root]
 v:Blk w bv 70 #[.func (.func 43) #[] #[.pointer (some ⟨bm,0,none⟩),.pointer (some ⟨bg,0,none⟩),.pointer (some ⟨bv,0,none⟩)]]
 at_:GAt w B A vs ns
 low:B<=mb
theorem RV.kept {w w':World} {mb bm bg bv:Nat} {A:Option Addr} {c:Nat} {root:Int} {vs:List NV} {ns:List Gr.Nd} {B:Nat} (h:RV w mb bm bg bv A c root vs ns B) {cs:Array Value} (hm:Blk w mb 4 cs) (hk:Kept1 mb w w'):RV w' mb bm bg bv A c root vs ns B:=
 ⟨hk.blk h.m (h.m.ne_ hm (by decide)),hk.blk h.g (h.g.ne_ hm (by decide)),hk.blk h.v (h.v.ne_ hm (by decide)),h.at_.below (hk.below h.low),h.low⟩
theorem zd9 (mb bm bg bv n:Nat) (m:List Bool) (a:Nat) (w:World) (h:Blk w bm 54 #[.slice (some ⟨mb,0,none⟩) n n]) (hm:Blk w mb 4 (bcells m)) (hml:m.length=n) (ha:a<n) (_hl:n<=1073741823) (hmk:m.getD a false=true):
 Calls prog 43 #[.int .i64 a,.pointer (some ⟨bm,0,none⟩),.pointer (some ⟨bg,0,none⟩),.pointer (some ⟨bv,0,none⟩)] w fun e w'=>e=.returned (.tuple #[])/\w'=w:=by
 have c1:w.cell? ⟨mb,a,none⟩=some (.bool true):=by rw[hm.cell,zah (by omega),hmk]
 have c2:w.cell? ⟨bm,0,none⟩=some (.slice (some ⟨mb,0,none⟩) n n):=h.cell 0;have haI:(a:Int)<(n:Int):=by omega
 clear hm h hmk;go_enter func43,ntmps43;go_wp2_with fail;refine bodyPost_ret (v:=.tuple #[]) (by simp[results,results43,go_sem]) rfl ?_;exact⟨rfl,rfl⟩
theorem zn3 (mb bm bg bv:Nat) (A:Option Addr) (c:Nat) (root:Int) (vs:List NV) (ns:List Gr.Nd) (B:Nat) (hr:Refs ns) (hl:ns.length<=1073741823) (hks:∀n∈ns,n.keys.length<=1073741823/\n.items.length<=1073741823):
 ∀(f:Nat) (m:List Bool) (a:Nat) (w:World),RV w mb bm bg bv A c root vs ns B->Blk w mb 4 (bcells m)->m.length=ns.length->a<ns.length->unm ns.length m<=f->
 Calls prog 43 #[.int .i64 a,.pointer (some ⟨bm,0,none⟩),.pointer (some ⟨bg,0,none⟩),.pointer (some ⟨bv,0,none⟩)] w fun e w'=>e=.returned (.tuple #[])/\Kept1 mb w w'/\Blk w' mb 4 (bcells (dvisit (Gr.succ ns) f m a)):=by
 intro f
 induction f with
 |zero=>
  intro m a w h G q J hu;have b:m.getD a false=true:=by
   cases e:m.getD a false with
   |true=>rfl
   |false=>have:=zgj q J e;omega
  refine(zd9 mb bm bg bv ns.length m a w h.m G q J hl b).mono ?_;rintro e w' ⟨rfl,rfl⟩;exact⟨rfl,Kept1.refl _ _,G⟩
 |succ f ih=>
  intro m a w h G q J hu;by_cases b:m.getD a false=true
  .refine(zd9 mb bm bg bv ns.length m a w h.m G q J hl b).mono ?_;rintro e w' ⟨rfl,rfl⟩;refine⟨rfl,Kept1.refl _ _,?_⟩;unfold dvisit;rw[if_pos b];exact G
  .have N:m.getD a false=false:=by simpa using b
   have K:dvisit (Gr.succ ns) (f+1) m a=((ns[a]).keys++(ns[a]).items).foldl (dvisit (Gr.succ ns) f) (m.set a true):=by
    conv=>lhs;unfold dvisit
    rw[if_neg b];unfold Gr.succ;rw[List.getElem?_eq_getElem J]
   rw[K];obtain⟨n,hn⟩:=ex (ns[a])
   have M:n∈ns:=hn▸List.getElem_mem J;obtain⟨hkl,hil⟩:=hks n M;have S:∀x∈n.keys,x<ns.length:=fun x p=>hr n M x (List.mem_append_left _ p)
   have W:∀x∈n.items,x<ns.length:=fun x p=>hr n M x (List.mem_append_right _ p)
   obtain⟨s,E⟩:=ex (m.set a true)
   have Q:unm ns.length s<=f:=by have:=zgj q J N;rw[E]at this;omega
   have ae:s.length=ns.length:=by rw[<-E];simp[q]
   have HF:Hid (∀L:List Nat,(∀x∈L,x<ns.length)->(L.foldl (dvisit (Gr.succ ns) f) s).length=ns.length/\unm ns.length (L.foldl (dvisit (Gr.succ ns) f) s)<=f):=hid (fun L hL=>by
    have:=zes (zbp hr.succ f) L s hL ae Q;exact⟨this.len,Nat.le_trans (zuf this.keep) Q⟩)
   have c1:w.cell? ⟨mb,a,none⟩=some (.bool false):=by rw[G.cell,zah (by omega),N]
   have c2:w.cell? ⟨bm,0,none⟩=some (.slice (some ⟨mb,0,none⟩) ns.length ns.length):=h.m.cell 0;have pf:∀i,w.frozen? ⟨mb,i,none⟩=false:=G.frozen;have haI:(a:Int)<(ns.length:Int):=by omega
   have HN:=hid hn;have HM:=hid G;have H:=hid h;have ab:=hid E;have IH:=hid ih;clear G h b hu K hn E ih Q N;go_enter func43,ntmps43;go_upto_region 2 with fail;obtain⟨z,F⟩:=ex (w.setCell ⟨mb,a,none⟩ (.bool true))
   have Y:Blk z mb 4 (bcells s):=by rw[<-F,<-ab.out,<-zb0];exact HM.out.set_ a _
   have O:Kept1 mb w z:=by rw[<-F];exact Kept1.set a _
   have h1:=H.out.kept HM.out O;rw[F];obtain⟨T,k,i,rfl,D⟩:=h1.at_.node J;obtain⟨ka,kn,kc⟩:=k;obtain⟨ia,ac,ic⟩:=i;rw[HN.out]at D;obtain rfl:kn=n.keys.length:=D.kn;obtain rfl:ac=n.items.length:=D.inn;have x3:=D.c3;have g0:z.cell? ⟨bg,0,none⟩=some (.slice (some T) ns.length c):=h1.g.cell 0;have af:=hid O;have U:=hid Y;have H1:=hid h1;have ai:Hid (RowAt intL z B ka n.keys):=hid D.keys;have P:Hid (z.cell? {block:=(T.add (a*5)).block,off:=(T.add (a*5)).off+4}=some (.slice ia n.items.length ic)/\RowAt intL z B ia n.items/\(T.add (a*5)).block<B):=hid ⟨D.c4,D.items,D.lt⟩;clear F c1 c2 pf D h1 O Y;go_upto_region 3 with fail;clear x3 g0;go_loopw [23] (fun s23 wr=>∃k:Nat,k<=n.keys.length/\s23=.int .i64 k/\Hid (Kept1 mb z wr/\Blk wr mb 4 (bcells ((n.keys.take k).foldl (dvisit (Gr.succ ns) f) s)))) (fun s23 _=>n.keys.length-(intOf s23).toNat)
   case atStart=>exact⟨0,by omega,rfl,hid ⟨Kept1.refl _ _,by simpa using U.out⟩⟩
   case round=>
    obtain⟨k,hk,rfl,j⟩:=hrel;have o:=H1.out.kept U.out j.out.1;by_cases hlt:k<n.keys.length
    .have l:(k:Int)<(n.keys.length:Int):=by omega
     obtain⟨x,p⟩:=ex (n.keys[k])
     obtain⟨ah,rfl,_,y0⟩:=zae (ai.out.below (j.out.1.below o.low)) hlt;rw[p]at y0;have r:x∈n.keys:=p▸List.getElem_mem hlt;have d:=HF.out (n.keys.take k) (fun y X=>S y (List.mem_of_mem_take X));have v0:wr.cell? ⟨bv,0,none⟩=some (.func (.func 43) #[] #[.pointer (some ⟨bm,0,none⟩),.pointer (some ⟨bg,0,none⟩),.pointer (some ⟨bv,0,none⟩)]):=o.v.cell 0;have HC:=hid (IH.out _ x wr o j.out.2 d.1 (S x r) d.2);have HT:Hid ((n.keys.take (k+1)).foldl (dvisit (Gr.succ ns) f) s=dvisit (Gr.succ ns) f ((n.keys.take k).foldl (dvisit (Gr.succ ns) f) s) x):=hid (by rw[zaj _ _ hlt,List.foldl_append,p];rfl);clear o r d p;go_wp2_with fail;refine HC.out.mono ?_;rintro e w5 ⟨rfl,t,u⟩;have R:Hid (Kept1 mb z w5/\Blk w5 mb 4 (bcells ((n.keys.take (k+1)).foldl (dvisit (Gr.succ ns) f) s))):=hid ⟨j.out.1.trans t,by rw[HT.out];exact u⟩;clear t u;go_wp2;go_roundw
     case rel=>exact⟨k+1,by omega,by go_num,R⟩
     case measure=>simp[intOf];omega
    .have l:¬((k:Int)<(n.keys.length:Int)):=by omega
     have Z:k=n.keys.length:=by omega
     obtain⟨I,C⟩:=ex (n.keys.foldl (dvisit (Gr.succ ns) f) s)
     have V:Hid (Kept1 mb z wr/\Blk wr mb 4 (bcells I)):=hid ⟨j.out.1,by have:=j.out.2;rw[Z,List.take_length,C]at this;exact this⟩;have ag:Hid (∀L:List Nat,(∀x∈L,x<ns.length)->(L.foldl (dvisit (Gr.succ ns) f) I).length=ns.length/\unm ns.length (L.foldl (dvisit (Gr.succ ns) f) I)<=f):=hid (fun L hL=>by
      have:=HF.out (n.keys++L) (fun y X=>(List.mem_append.1 X).elim (S y) (hL y));rwa[List.foldl_append,C]at this)
     have HR:Hid (n.items.foldl (dvisit (Gr.succ ns) f) (n.keys.foldl (dvisit (Gr.succ ns) f) (m.set a true))=n.items.foldl (dvisit (Gr.succ ns) f) I):=hid (by rw[ab.out,C]);have g0:wr.cell? ⟨bg,0,none⟩=some (.slice (some T) ns.length c):=o.g.cell 0;have x4:wr.cell? {block:=(T.add (a*5)).block,off:=(T.add (a*5)).off+4}=some (.slice ia n.items.length ic):=by
      rw[(j.out.1.below o.low).cell (by exact P.out.2.2)];exact P.out.1
     clear o Z C j hk;go_upto_region 8 with fail;clear g0 x4;go_loopw [38] (fun s38 wr=>∃k:Nat,k<=n.items.length/\s38=.int .i64 k/\Hid (Kept1 mb z wr/\Blk wr mb 4 (bcells ((n.items.take k).foldl (dvisit (Gr.succ ns) f) I)))) (fun s38 _=>n.items.length-(intOf s38).toNat)
     case atStart=>exact⟨0,by omega,rfl,hid ⟨V.out.1,by simpa using V.out.2⟩⟩
     case round=>
      clear l hlt;obtain⟨k,hk,rfl,j⟩:=hrel;have o:=H1.out.kept U.out j.out.1;by_cases hlt:k<n.items.length
      .have l:(k:Int)<(n.items.length:Int):=by omega
       obtain⟨x,p⟩:=ex (n.items[k])
       obtain⟨ah,rfl,_,y0⟩:=zae (P.out.2.1.below (j.out.1.below o.low)) hlt;rw[p]at y0;have r:x∈n.items:=p▸List.getElem_mem hlt;have d:=ag.out (n.items.take k) (fun y X=>W y (List.mem_of_mem_take X));have v0:wr.cell? ⟨bv,0,none⟩=some (.func (.func 43) #[] #[.pointer (some ⟨bm,0,none⟩),.pointer (some ⟨bg,0,none⟩),.pointer (some ⟨bv,0,none⟩)]):=o.v.cell 0;have HC:=hid (IH.out _ x wr o j.out.2 d.1 (W x r) d.2);have HT:Hid ((n.items.take (k+1)).foldl (dvisit (Gr.succ ns) f) I=dvisit (Gr.succ ns) f ((n.items.take k).foldl (dvisit (Gr.succ ns) f) I) x):=hid (by rw[zaj _ _ hlt,List.foldl_append,p];rfl);clear o r d p;go_wp2_with fail;refine HC.out.mono ?_;rintro e w5 ⟨rfl,t,u⟩;have R:Hid (Kept1 mb z w5/\Blk w5 mb 4 (bcells ((n.items.take (k+1)).foldl (dvisit (Gr.succ ns) f) I))):=hid ⟨j.out.1.trans t,by rw[HT.out];exact u⟩;clear t u;go_wp2;go_roundw
       case rel=>exact⟨k+1,by omega,by go_num,R⟩
       case measure=>simp[intOf];omega
      .have l:¬((k:Int)<(n.items.length:Int)):=by omega
       have aa:Hid (Kept1 mb w wr/\Blk wr mb 4 (bcells (n.items.foldl (dvisit (Gr.succ ns) f) (n.keys.foldl (dvisit (Gr.succ ns) f) (m.set a true))))):=hid ⟨af.out.trans j.out.1,by
        have:=j.out.2;rw[show k=n.items.length from by omega,List.take_length]at this;rw[HR.out];exact this⟩
       clear o;go_wp2_with fail;go_end0;rw[HN.out];exact⟨rfl,aa.out⟩
section
variable {P:Program} {ops:Array Oper} {md:Region.Mode}
def nopOf (o:Oper):Oper:={o with op:=.move (.const (.bool false)),dst:=none}
def zg0 (md:Region.Mode) (ops:Array Oper):Bool:=(List.range ops.size).all fun j=>((ops[j]?).map (·.after.all fun e=>!Region.binds md e || decide (e.on<j))).getD true
def apartB (ops:Array Oper):Bool:=(List.range ops.size).all fun i=>(List.range ops.size).all fun j=>decide (i=j) || match ops[i]?.bind (·.dst),ops[j]?.bind (·.dst)with
 |some a,some b=>decide (a≠b)
 |_,_=>true
def waitsB (md:Region.Mode) (ops:Array Oper) (s:Nat) (d:Tmp):Bool:=(List.range ops.size).all fun j=>!(decide (ops[j]?.bind (·.dst)=some d)) || Region.waitsFor md ops s j
theorem zsm {i j:Nat} {a:Tmp} (h:apartB ops=true) (hi:i<ops.size) (hj:j<ops.size) (hne:i≠j) (ha:ops[i]?.bind (·.dst)=some a):ops[j]?.bind (·.dst)≠some a:=by
 intro c;have b:=List.all_eq_true.1 (List.all_eq_true.1 h i (List.mem_range.2 hi)) j (List.mem_range.2 hj);rw[ha,c]at b;simp[hne]at b
theorem zg1 {C:World->Prop} {aF:Act} {d:Tmp}:∀(fuel:Nat) (listed:Array Bool) (a:Act),(∀j,listed.getD j true=false->ops[j]?.bind (·.dst)≠some d)->
 wpAnyQ P md ops C (fun a'=>a'=aF) fuel listed a->a.tmps[d]? =aF.tmps[d]?
 | 0,_,_,_,h=>by rw[h.2]
 |fuel+1,listed,a,hd,h=>by
  cases hr:Region.ready md ops listed with
  |nil=>rw[h.1 hr]
  |cons i l=>
   have n:i∈Region.ready md ops listed:=by rw[hr];exact .head _
   obtain⟨m,o,k,_⟩:=mem_ready.1 n;have g:o.dst≠some d:=by have:=hd i m;rwa[k]at this
   have e:∀j,(listed.setIfInBounds i true).getD j true=false->ops[j]?.bind (·.dst)≠some d:=by
    intro j hj;by_cases hij:i=j
    .subst hij;rw[k];exact g
    .simp_all
   have c:∀v,wpAnyQ P md ops C (fun a'=>a'=aF) fuel (listed.setIfInBounds i true) (a.put o.dst v)->a.tmps[d]? =aF.tmps[d]? :=by
    intro v f;have:=zg1 fuel _ _ e f;rw[<-this];unfold Act.put;cases hod:o.dst with
    |none=>rfl
    |some d2=>
     grind
   have b:=h.2 i n;unfold qOp at b;simp only[k]at b;split at b
   .obtain⟨v,_,f⟩:=b;exact c v f
   .exact c _ b
theorem zsn {a:Act} {dst:Option Tmp} {u v:Value} (h:∀d,dst=some d->(a.put dst u).tmps[d]? =(a.put dst v).tmps[d]?):a.put dst u=a.put dst v:=by
 cases dst with
 |none=>rfl
 |some d=>
  have b:=h d rfl;unfold Act.put at b ⊢;simp only at b ⊢;by_cases hd:d<a.tmps.size
  .grind
  .rw[Array.setIfInBounds_eq_of_size_le (Nat.not_lt.1 hd),Array.setIfInBounds_eq_of_size_le (Nat.not_lt.1 hd)]
theorem zl2 {listed:Array Bool} (he:zg0 md ops=true) (hsz:listed.size=ops.size) (hr:Region.ready md ops listed=[]):∀j,j<ops.size->listed.getD j false=true:=by
 intro j
 induction j using Nat.strongRecOn with
 |_ j ih=>
  intro c;cases hl:listed.getD j false with
  |true=>rfl
  |false=>
   exfalso;have d:j∈Region.ready md ops listed:=by
    rw[mem_ready];refine⟨getD_in (by omega) hl,ops[j],Array.getElem?_eq_getElem c,fun e a g=>?_⟩;have b:=List.all_eq_true.1 he j (List.mem_range.2 c);rw[Array.getElem?_eq_getElem c]at b;simp only[Option.map_some,Option.getD_some]at b;have f:=Array.all_eq_true'.1 b e a;simp only[g,Bool.not_true,Bool.false_or,decide_eq_true_eq]at f;exact ih e.on f (by omega)
   rw[hr]at d;cases d
variable {s:Nat} {os:Oper} {D:Bool->World->Prop} {aF:Act} {Q:Exit->Act->World->Prop}
theorem zo5 (_hs:ops[s]? =some os) {j:Nat} (hne:j≠s):(ops.setIfInBounds s (nopOf os))[j]? =ops[j]? :=Array.getElem?_setIfInBounds_ne (Ne.symm hne)
theorem zg2 (hs:ops[s]? =some os):(ops.setIfInBounds s (nopOf os))[s]? =some (nopOf os):=Array.getElem?_setIfInBounds_self_of_lt (Array.getElem?_eq_some_iff.1 hs).1
theorem zjl (hs:ops[s]? =some os) (hd:os.dst=none) (j:Nat):(ops.setIfInBounds s (nopOf os))[j]?.bind (·.dst)=ops[j]?.bind (·.dst):=by
 by_cases h:j=s
 .subst h;rw[zg2 hs,hs];simp[nopOf,hd]
 .rw[zo5 hs h]
theorem zjm (hs:ops[s]? =some os) (hd:os.dst=none) (t:Array Value):yielded (ops.setIfInBounds s (nopOf os)) t=yielded ops t:=by
 funext j
 unfold yielded;rw[zjl hs hd]
theorem zh3 (hs:ops[s]? =some os) (listed:Array Bool) (i:Nat):i∈Region.ready md (ops.setIfInBounds s (nopOf os)) listed↔i∈Region.ready md ops listed:=by
 rw[mem_ready,mem_ready];by_cases h:i=s
 .subst h;rw[zg2 hs,hs];constructor
  .rintro⟨a,o,c,b⟩;injection c with c
   subst c;exact⟨a,os,rfl,b⟩
  .rintro⟨a,o,c,b⟩;injection c with c
   subst c;exact⟨a,_,rfl,b⟩
 .rw[zo5 hs h]
theorem zo6 {p q:Tmp} {ty:TypeId} (hs:ops[s]? =some os) (hd:os.dst=none) (hg:os.guard=none) (hop:os.op=.store ty (.tmp p) (.tmp q)) (he:zg0 md ops=true) (hap:apartB ops=true) (hp:waitsB md ops s p=true) (hq:waitsB md ops s q=true)
 (hst:∀w,D false w->∃w',(execOp aF.eval os).run P w=.ok .skip w'/\D true w') (hend:∀w,D true w->Q .normal aF w):
 ∀(fuel:Nat) (listed:Array Bool) (a:Act) (w:World),listed.size=ops.size->(∀b,wpAnyQ P md (ops.setIfInBounds s (nopOf os)) (D b) (fun a'=>a'=aF) fuel listed a)->D (listed.getD s false) w->wpAny P md ops Q fuel listed a w:=by
 have X:s<ops.size:=(Array.getElem?_eq_some_iff.1 hs).1;have h:∀(listed:Array Bool) (w:World),listed.size=ops.size->Region.ready md ops listed=[]->D (listed.getD s false) w->D true w:=fun listed w z u n=>by
  rwa[zl2 he z u s X]at n
 have y:∀listed,Region.ready md (ops.setIfInBounds s (nopOf os)) listed=[]↔Region.ready md ops listed=[]:=fun listed=>by
  rw[List.eq_nil_iff_forall_not_mem,List.eq_nil_iff_forall_not_mem];exact forall_congr' (fun i=>not_congr (zh3 hs listed i))
 intro fuel
 induction fuel with
 |zero=>
  intro listed a w z u n;have f:=u true;refine⟨(y listed).1 f.1,?_⟩;rw[f.2];exact hend w (h listed w z ((y listed).1 f.1) n)
 |succ fuel ih=>
  intro listed a w z u n;refine⟨fun hr=>?_,fun i hi=>?_⟩
  .rw[(u true).1 ((y listed).2 hr)];exact hend w (h listed w z hr n)
  .obtain⟨N,o,r,B⟩:=mem_ready.1 hi;have G:i<ops.size:=(Array.getElem?_eq_some_iff.1 r).1;have J:=(zh3 (md:=md) hs listed i).2 hi;have m:(listed.setIfInBounds i true).size=ops.size:=by simpa using z
   by_cases his:i=s
   .subst his;obtain rfl:o=os:=Option.some.inj (r.symm.trans hs);have H:∀b,wpAnyQ P md (ops.setIfInBounds i (nopOf o)) (D b) (fun a'=>a'=aF) fuel (listed.setIfInBounds i true) a:=fun b=>by
     have f:=(u b).2 i J;unfold qOp at f;rw[zg2 hs]at f;simp only at f;rw[if_pos (show Region.wanted (nopOf o) _=true by simp[Region.wanted,nopOf,hg])]at f;obtain⟨v,_,V⟩:=f;exact V
    have g:∀d,waitsB md ops i d=true->a.tmps[d]? =aF.tmps[d]? :=fun d R=>by
     refine zg1 (C:=D true) fuel _ a (fun j hj A=>?_) (H true);rw[zjl hs hd]at A;have t:j<ops.size:=by
      grind
     have W:=List.all_eq_true.1 R j (List.mem_range.2 t);rw[decide_eq_true A]at W;simp only[Bool.not_true,Bool.false_or]at W;obtain⟨oj,T,e,L,U,Y⟩:=Region.waitsFor_spec W;obtain rfl:oj=o:=Option.some.inj (T.symm.trans r);have h6:=B e L U;rw[Y]at h6;by_cases hij:i=j
     .grind
     .simp_all
    have x:listed.getD i false=false:=getD_both N;rw[x]at n;obtain⟨w',I,hD⟩:=hst w n;have M:execOp a.eval o=execOp aF.eval o:=by
     have e1:a.eval (.tmp p)=aF.eval (.tmp p):=by
      show a.tmps.getD p undef=aF.tmps.getD p undef;rw[Array.getD_eq_getD_getElem?,Array.getD_eq_getD_getElem?,g p hp]
     have e2:a.eval (.tmp q)=aF.eval (.tmp q):=by
      show a.tmps.getD q undef=aF.tmps.getD q undef;rw[Array.getD_eq_getD_getElem?,Array.getD_eq_getD_getElem?,g q hq]
     unfold execOp;rw[hop];simp only[e1,e2]
    unfold wpOp;rw[r];simp only[Region.wanted,hg,if_true];left;unfold Oper.wp;rw[M,I];show wpAny P md ops Q fuel (listed.setIfInBounds i true) (a.put o.dst undef) w';rw[hd];refine ih _ a w' m H ?_;rw[show(listed.setIfInBounds i true).getD i false=true from by
     have:i<listed.size:=by omega
     simp[this]]
    exact hD
   .have x:(listed.setIfInBounds i true).getD s false=listed.getD s false:=getD_set_ne false his;have E:(ops.setIfInBounds s (nopOf os))[i]? =some o:=by rw[zo5 hs his,r]
    have c:∀b,(if Region.wanted o (yielded ops a.tmps)then o.quiet P a (D b) (wpAnyQ P md (ops.setIfInBounds s (nopOf os)) (D b) (fun a'=>a'=aF) fuel (listed.setIfInBounds i true))else wpAnyQ P md (ops.setIfInBounds s (nopOf os)) (D b) (fun a'=>a'=aF) fuel (listed.setIfInBounds i true) (a.put o.dst undef)):=fun b=>by
     have f:=(u b).2 i J;unfold qOp at f;rw[E]at f;simp only[zjm hs hd]at f;exact f
    unfold wpOp;rw[r];simp only;by_cases hw:Region.wanted o (yielded ops a.tmps)=true
    .rw[if_pos hw];left;simp only[hw,if_true]at c;have F:∀(b b':Bool) (v v':Value),wpAnyQ P md (ops.setIfInBounds s (nopOf os)) (D b) (fun a'=>a'=aF) fuel (listed.setIfInBounds i true) (a.put o.dst v)->wpAnyQ P md (ops.setIfInBounds s (nopOf os)) (D b') (fun a'=>a'=aF) fuel (listed.setIfInBounds i true) (a.put o.dst v')->a.put o.dst v=a.put o.dst v':=fun b b' v v' k1 k2=>by
      refine zsn (fun d S=>?_);have k:∀j,(listed.setIfInBounds i true).getD j true=false->(ops.setIfInBounds s (nopOf os))[j]?.bind (·.dst)≠some d:=fun j hj=>by
       rw[zjl hs hd];have hij:i≠j:=by
        rintro rfl;have:i<listed.size:=by omega
        simp[this]at hj
       by_cases t:j<ops.size
       .exact zsm hap G t hij (by rw[r];exact S)
       .grind
      rw[zg1 fuel _ _ k k1,zg1 fuel _ _ k k2]
     obtain⟨v,V,hk⟩:=c (listed.getD s false);refine Oper.wp_of_quiet (C:=D (listed.getD s false)) (K:=fun a'=>∀b,wpAnyQ P md (ops.setIfInBounds s (nopOf os)) (D b) (fun O=>O=aF) fuel (listed.setIfInBounds i true) a') n (fun a' w' Z l=>ih _ a' w' m l (by rw[x];exact Z)) ⟨v,V,fun b=>?_⟩;obtain⟨v',_,l⟩:=c b;rw[F _ _ v v' hk l];exact l
    .grind
theorem za7 {id:Nat} {l:List Oper} {a:Act} {w:World} {p q:Tmp} {ty:TypeId} (s:Nat) (hm:P.follows .mixedOrders=true) (l':List Oper) (hs:l.toArray[s]? =some os) (hl':l'=l.set s (nopOf os)) (hd:os.dst=none) (hg:os.guard=none) (hop:os.op=.store ty (.tmp p) (.tmp q))
 (hB:Region.lexB .any l'.toArray=true) (he:zg0 .any l.toArray=true) (hap:apartB l.toArray=true) (hp:waitsB .any l.toArray s p=true) (hq:waitsB .any l.toArray s q=true) (D:Bool->World->Prop) (hD:D false {w with drawn:=w.drawn+1})
 (h:∀b,wpQuiet P l'.toArray (D b) (fun a'=>a'=aF) l' a)
 (hst:∀w,D false w->∃w',(execOp aF.eval os).run P w=.ok .skip w'/\D true w') (hend:∀w,D true w->Q .normal aF w):(Code.region id l.toArray true).wp P Q a w:=by
 simp only[Region.lexB,Bool.and_eq_true]at hB;have e:l.toArray.setIfInBounds s (nopOf os)=l'.toArray:=by rw[hl'];simp
 have c:l'.length=l.toArray.size:=by rw[hl'];simp
 refine wp_region_any hm ?_;have hsl:s<l.toArray.size:=(Array.getElem?_eq_some_iff.1 hs).1;refine zo6 hs hd hg hop he hap hp hq hst hend _ _ a _ (by simp) (fun b=>?_) (by rw[getD_replicate_false];exact hD);rw[e,<-c];have:=wpAnyQ_lex (C:=D b) (md:=.any) hB.1 l' 0 (Array.replicate l'.length false) a (by simp) (by simpa using hB.2) (h b);exact this
end
structure WL (g:Nat) (t:TypeId) (w0:World) (cs:Array Value) where
 w:World
 h:KB g w0 w
 hc:Blk w g t cs
theorem Calls.late {P:Program} {f:FuncId} {args:Array Value} {g:Nat} {t:TypeId} {w0:World} {cs:Array Value} {x:WL g t w0 cs} {v:Value} (h:Calls P f args x.w fun e w'=>e=.returned v/\Below x.w.heap.size x.w w'):
 Calls P f args x.w fun e w''=>e=.returned v/\∃y:WL g t w0 cs,w''=y.w:=h.mono fun _ _ ⟨b,a⟩=>⟨b,⟨_,x.h.trans (KB.of_below a),x.hc.below a x.hc.lt⟩,rfl⟩
def tl:Nat->Code->Code
 | 0,c=>c
 |n+1,.seq _ b=>tl n b
 |_+1,c=>c
def tw (s:Gr.Str) (a n:Nat):Int:=match numAt s a n with
 |some v=>(v:Int)
 |none=>-1
theorem zdx (c:UInt8) (b:Nat) (hb:c.toNat=b):Gr.dig c=(decide (48<=b) && decide (b<=57))/\Gr.dv c=b-48:=by
 subst hb;refine⟨?_,rfl⟩;rw[Bool.eq_iff_iff,zbf];simp
theorem zcj (s:Gr.Str) (a k:Nat) (h:a+k<s.length):(s.drop a).take (k+1)=(s.drop a).take k++[s[a+k]]:=by
 rw[List.take_succ_eq_append_getElem (by simp;omega),List.getElem_drop]
theorem zdk (s:Gr.Str) (a n k:Nat) (hk:k<n) (h:a+k<s.length) (hd:Gr.dig s[a+k]=false):numAt s a n=none:=by
 unfold numAt;rw[if_neg];rintro⟨h1,b⟩;rw[List.all_eq_true]at b;have:=b s[a+k] (by
  rw[List.mem_take_iff_getElem];exact⟨k,by simp;omega,by rw[List.getElem_drop]⟩)
 rw[hd]at this;cases this
theorem zc5 (s:Gr.Str) (a n:Nat) (h:s.length<a+n):numAt s a n=none:=by
 unfold numAt;rw[if_neg (fun hc=>by omega)]
theorem zia (s:Gr.Str) (a n:Nat) (h:a+n<=s.length) (hd:((s.drop a).take n).all Gr.dig=true):numAt s a n=some (Gr.val ((s.drop a).take n)):=by
 unfold numAt;rw[if_pos ⟨h,hd⟩]
theorem zkz (l:Gr.Str) (hd:l.all Gr.dig=true) (h:l.length<=9):Gr.val l<1000000000:=Nat.lt_of_lt_of_le (zev l hd) (Nat.pow_le_pow_right (n:=10) (by omega) h)
theorem zcw {s:Gr.Str} {a n v:Nat} (h:numAt s a n=some v) (hn:n<=9):v<1000000000/\v<10 ^ n/\a+n<=s.length:=by
 unfold numAt at h;split at h
 .rename_i hc;injection h with h
  subst h;have b:((s.drop a).take n).length=n:=by simp;omega
  have:=zev _ hc.2;rw[b]at this;exact⟨zkz _ hc.2 (by omega),this,hc.1⟩
 .cases h
theorem zck (s:Gr.Str) (hl:s.length<=1073741823) (a n:Nat) (i j:Int) (hi:i=(a:Int)) (hj:j=(n:Int)) (ha:a<=2147483647) (hn:n<=9) (w:World):
 Calls prog 199 #[.string ⟨s.toArray⟩,.int .i64 i,.int .i64 j] w fun e w'=>e=.returned (.int .i64 (tw s a n))/\w=w':=by
 subst hi;subst hj;obtain⟨r,q⟩:=ex (tw s a n)
 have m:=hid q;rw[q];clear q;by_cases hlen:s.length<a+n
 .have l:(s.length:Int)<(a:Int)+(n:Int):=by omega
  have g:Hid (r=-1):=hid (by rw[<-m.out];unfold tw;rw[zc5 s a n hlen]);go_enter func199,ntmps199;go_wp2;go_ret;rw[g.out];exact⟨rfl,rfl⟩
 .have l:¬(s.length:Int)<(a:Int)+(n:Int):=by omega
  go_enter func199,ntmps199;go_wp2_with fail;go_loop [7,8] (fun s7 s8=>∃k v:Nat,k<=n/\v<=999999999/\s7=.int .i64 (v:Int)/\s8=.int .i64 ((a+k:Nat):Int)/\Hid (((s.drop a).take k).all Gr.dig=true/\v=Gr.val ((s.drop a).take k))) (fun _ s8=>a+n-(intOf s8).toNat)
  case atStart=>exact⟨0,0,by omega,by omega,rfl,rfl,hid ⟨by simp,by simp[Gr.val]⟩⟩
  case round=>
   obtain⟨k,v,hk,hv,rfl,rfl,p⟩:=hrel;by_cases hlt:k<n
   .have h:((a+k:Nat):Int)<(a:Int)+(n:Int):=by omega
    have c:a+k<s.length:=by omega
    obtain⟨b,o⟩:∃b:Nat,(s[a+k]'c).toNat=b:=⟨_,rfl⟩
    have hbv:(((⟨s.toArray⟩:ByteArray)[a+k]'(by simpa[ByteArray.size]using c)).toNat:Int)=(b:Int):=by rw[<-o];rfl
    have hbl:b<256:=by rw[<-o];exact(s[a+k]'c).toNat_lt
    have d:=hid (zdx (s[a+k]'c) b o);clear o;by_cases h48:48<=b
    .have t:¬(b:Int)<48:=by omega
     have b48:(48:Int)<=(b:Int):=by omega
     by_cases h57:b<=57
     .have u:¬(57:Int)<(b:Int):=by omega
      have y:=hid (zcj s a k c);have f:Hid (((s.drop a).take (k+1)).all Gr.dig=true/\10*v+(b-48)=Gr.val ((s.drop a).take (k+1))):=hid (by
       rw[y.out,List.all_append,p.out.1,zbj,<-p.out.2,d.out.2];exact⟨by simp[d.out.1,h48,h57],rfl⟩)
      have x:10*v+(b-48)<=999999999:=by
       rw[f.out.2];have:=zkz _ f.out.1 (by simp;omega);omega
      clear l;go_wp2;go_round
      case rel=>exact⟨k+1,10*v+(b-48),by omega,x,by exact congrArg (Value.int .i64) (by omega),by go_num,f⟩
      case measure=>simp[intOf];omega
     .have u:(57:Int)<(b:Int):=by omega
      have g:Hid (r=-1):=hid (by rw[<-m.out];unfold tw;rw[zdk s a n k hlt c (by rw[d.out.1];simp[h57])]);go_wp2;go_ret;rw[g.out];exact⟨rfl,rfl⟩
    .have t:(b:Int)<48:=by omega
     have g:Hid (r=-1):=hid (by rw[<-m.out];unfold tw;rw[zdk s a n k hlt c (by rw[d.out.1];simp[h48])]);go_wp2;go_ret;rw[g.out];exact⟨rfl,rfl⟩
   .obtain rfl:k=n:=by omega
    have h:¬((a+k:Nat):Int)<(a:Int)+(k:Int):=by omega
    have g:Hid (r=(v:Int)):=hid (by rw[<-m.out];unfold tw;rw[zia s a k (by omega) p.out.1,p.out.2]);go_wp2;go_ret;rw[g.out];exact⟨rfl,rfl⟩
theorem zcl (s:Gr.Str) (_hl:s.length<=1073741823) (a:Nat) (i:Int) (hi:i=(a:Int)) (c:UInt8) (j:Int) (hj:j=(c.toNat:Int)) (w:World):
 Calls prog 183 #[.string ⟨s.toArray⟩,.int .i64 i,.int .u8 j] w fun e w'=>e=.returned (.bool (isAt s a c))/\w=w':=by
 subst hi;subst hj;obtain⟨r,g⟩:=ex (isAt s a c)
 have m:=hid g;rw[g];clear g;obtain⟨d,l⟩:∃d:Nat,c.toNat=d:=⟨_,rfl⟩
 have n:=hid l;rw[l];clear l;by_cases hlt:a<s.length
 .have f:(a:Int)<(s.length:Int):=by omega
  obtain⟨b,h⟩:∃b:Nat,(s[a]'hlt).toNat=b:=⟨_,rfl⟩
  have hbv:(((⟨s.toArray⟩:ByteArray)[a]'(by simpa[ByteArray.size]using hlt)).toNat:Int)=(b:Int):=by rw[<-h];rfl
  have k:Hid (((b:Int)==(d:Int))=r):=hid (by
   rw[<-m.out];unfold isAt;rw[List.getElem?_eq_getElem hlt,Bool.eq_iff_iff];simp only[beq_iff_eq,Option.some.injEq];rw[<-UInt8.toNat_inj,n.out,h];omega)
  clear h;go_enter func183,ntmps183;go_wp2;go_ret;rw[<-k.out];exact⟨rfl,rfl⟩
 .have f:¬(a:Int)<(s.length:Int):=by omega
  have k:Hid (r=false):=hid (by
   rw[<-m.out];unfold isAt;rw[List.getElem?_eq_none (by omega)];rfl)
  go_enter func183,ntmps183;go_wp2;go_ret;rw[k.out];exact⟨rfl,rfl⟩
theorem zpt (y:Int) (w:World):
 Calls prog 200 #[.int .i64 y] w fun e w'=>e=.returned (.bool (Cal.leapB y))/\w=w':=by
 go_enter func200,ntmps200;go_wp2
 all_goals go_ret
 all_goals exact⟨congrArg (fun b=>Ending.returned (.bool b)) (by simp[Cal.leapB, *]),rfl⟩
theorem zdz (y m:Int) (_h1:1<=m) (_h2:m<=12) (w:World):
 Calls prog 185 #[.int .i64 y,.int .i64 m] w fun e w'=>e=.returned (.int .i64 (Cal.dim y m))/\w=w':=by
 go_enter func185,ntmps185;go_wp2_with (go_at_call 200;refine(zpt _ _).mono ?_;rintro e w' ⟨rfl,rfl⟩)
 all_goals go_ret
 all_goals exact⟨congrArg (fun b=>Ending.returned (.int .i64 b)) (by simp_all [Cal.dim,Cal.lp]),rfl⟩
theorem zib (y m d:Int) (h0:0<=y) (h1:y<=20000) (h2:1<=m) (h3:m<=12) (h4:0<=d) (h5:d<=1000) (w:World):
 Calls prog 198 #[.int .i64 y,.int .i64 m,.int .i64 d] w fun e w'=>e=.returned (.int .i64 (Cal.num y m d))/\w=w':=by
 have l:Hid (Cal.fst y=365*y+(y+3) /4-(y+99) /100+(y+399) /400):=hid rfl;have hb0:0<=365*y+(y+3) /4-(y+99) /100+(y+399) /400:=by omega
 have hb1:365*y+(y+3) /4-(y+99) /100+(y+399) /400<=10000000:=by omega
 go_enter func198,ntmps198;go_wp2_with fail;go_loop [7,8] (fun n i=>∃k c:Int,1<=k/\k<=m/\0<=c/\c<=366/\i=.int .i64 k/\n=.int .i64 (365*y+(y+3) /4-(y+99) /100+(y+399) /400-719528+c)/\Hid (Cal.cum y k=c)) (fun _ i=>(13-intOf i).toNat)
 case atStart=>exact⟨1,0,by omega,by omega,by omega,by omega,rfl,by exact congrArg (Value.int .i64) (by omega),hid rfl⟩
 case round=>
  obtain⟨k,c,hk1,hk2,hc0,hc1,rfl,rfl,b⟩:=hrel;by_cases hlt:k<m
  .have j:=Cal.zxu y k;have f:=hid (Cal.zgz y k (by omega) (by omega));have g:=Cal.zxw y (k+1);have o:=hid g;clear g;obtain⟨q,a⟩:=ex (Cal.dim y k)
   have p:Hid (∀W,Calls prog 185 #[.int .i64 y,.int .i64 k] W fun e w'=>e=.returned (.int .i64 q)/\W=w'):=hid (fun W=>by rw[<-a];exact zdz y k (by omega) (by omega) W);rw[a]at j f;clear a;go_wp2_with fail;refine(p.out _).mono ?_;rintro e w' ⟨rfl,rfl⟩;go_wp2;go_round
   case rel=>exact⟨k+1,c+q,by omega,by omega,by omega,by have:=f.out;have:=o.out;have:=b.out;omega,rfl,by exact congrArg (Value.int .i64) (by omega),hid (by rw[f.out,b.out])⟩
   case measure=>simp[intOf];omega
  .obtain rfl:k=m:=by omega
   have h:Hid (Cal.num y k d=365*y+(y+3) /4-(y+99) /100+(y+399) /400-719528+c+d-1):=hid (by unfold Cal.num;rw[l.out,b.out];omega);go_wp2;go_ret;rw[h.out];exact⟨rfl,rfl⟩
end Go.Proofs.YtpjmhafmeieloabGreatDoor

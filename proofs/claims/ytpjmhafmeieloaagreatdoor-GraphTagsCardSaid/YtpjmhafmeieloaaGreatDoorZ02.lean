import Derived.Test.YtpjmhafmeieloaaGreatDoorZ01
import Derived.StillTail
import Derived.Laws.EntriesVeiled
namespace Go.Proofs.YtpjmhafmeieloaaGreatDoor
open Go.RowKit
structure WB (B:Nat) (w0:World) where
 w:World
 h:Below B w0 w
instance WB.inst (B:Nat) (w0:World):Nonempty (WB B w0):=⟨⟨w0,Below.refl _ _⟩⟩
theorem zaa {P:Program} {id:Nat} {Q:Exit->Act->World->Prop} {a:Act} {w:World} {l:List Oper} (B:Nat) (w0:World) (hm:P.follows .mixedOrders=true) (hB:Region.lexB .any l.toArray=true) (h0:Below B w0 w)
 (h:wpQuiet P l.toArray (fun W=>∃x:WB B w0,W=x.w) (fun a'=>∀W,(∃x:WB B w0,W=x.w)->Q .normal a' W) l a):(Code.region id l.toArray true).wp P Q a w:=
 wp_region_quiet (C:=fun W=>∃x:WB B w0,W=x.w) hm hB ⟨⟨_,below_drewN h0 1⟩,rfl⟩ (by simpa using h)
theorem Calls.grow {P:Program} {f:FuncId} {args:Array Value} {B:Nat} {w0:World} {x:WB B w0} {v:Value} (h:Calls P f args x.w fun e w'=>e=.returned v/\Below B w0 w'):
 Calls P f args x.w fun e w''=>e=.returned v/\∃y:WB B w0,w''=y.w:=h.mono fun _ _ ⟨a,b⟩=>⟨a,⟨_,b⟩,rfl⟩
section
variable {P:Program} {ops:Array Oper} {md:Region.Mode} {C:World->Prop}
def wpAnyLQ (P:Program) (md:Region.Mode) (ops:Array Oper) (C:World->Prop) (n:Nat) (L:Array Bool->Act->Prop):Nat->Array Bool->Act->Prop
 | 0,listed,a=>L listed a
 |f+1,listed,a=>Region.ready md ops listed≠[]/\∀i∈Region.ready md ops listed,i<n/\qOp P ops C i (wpAnyLQ P md ops C n L f (listed.setIfInBounds i true)) a
theorem zc5 {n g:Nat} {L:Array Bool->Act->Prop} {Q':Exit->Act->World->Prop} (hL:∀listed a w,C w->L listed a->wpAny P md ops Q' g listed a w):
 ∀(f:Nat) (listed:Array Bool) (a:Act) (w:World),C w->wpAnyLQ P md ops C n L f listed a->wpAny P md ops Q' (f+g) listed a w
 | 0,listed,a,w,hC,h=>by rw[Nat.zero_add];exact hL _ _ _ hC h
 |f+1,listed,a,w,hC,h=>by
  rw[show f+1+g=(f+g)+1 by omega];exact⟨fun c=>absurd c h.1,fun i e=>wpOp_of_qOp hC (fun j d b k=>zc5 hL f _ j d b k) (h.2 i e).2⟩
theorem zg2 {n i:Nat} {oi:Oper} {v:Value} {L:Array Bool->Act->Prop} (hi:ops[i]? =some oi) (hsel:∀(j:Nat) (o:Oper) cs b,ops[j]? =some o->o.op≠.select cs b)
 (hs:Region.sinkB md ops n=true) (hc:Region.chainB md ops n=true) (hn:n<ops.size) (hin:i<n)
 (hdone:∀listed a,L listed a->∀j∈Region.ready md ops listed,n<=j):
 ∀(f:Nat) (listed:Array Bool) (a:Act),HeadInv md ops n listed->
  (∀j oj,ops[j]? =some oj->j≠i->listed.getD j true=false->(∀e∈oj.after,Region.binds md e=true->e.on≠i)->oi.apart ops oj=true)->
  i∈Region.ready md ops listed->YieldsIn P ops C oi v a->
  wpAnyLQ P md ops C n L f (listed.setIfInBounds i true) (a.put oi.dst v)->wpAnyLQ P md ops C n L (f+1) listed a:=by
 intro f
 induction f with
 |zero=>
  intro listed a l _ p u H;have c:=(mem_ready.1 p).1;refine⟨fun h=>(by rw[h]at p;cases p),fun j s=>?_⟩;have m:j<n:=by
   rcases Nat.lt_or_ge j n with h|h
   .exact h
   .exact absurd s (tail_waits hs hc hn l _ i rfl hin c j h)
  refine⟨m,?_⟩;by_cases hji:j=i
  .subst hji;exact u.qOp hi H
  .have:=hdone _ _ H j (ready_mono s hji);omega
 |succ f ih=>
  intro listed a l d p u H;have c:=(mem_ready.1 p).1;refine⟨fun h=>(by rw[h]at p;cases p),fun j s=>?_⟩;have m:j<n:=by
   rcases Nat.lt_or_ge j n with h|h
   .exact h
   .exact absurd s (tail_waits hs hc hn l _ i rfl hin c j h)
  refine⟨m,?_⟩;by_cases hji:j=i
  .subst hji;exact u.qOp hi H
  .have z:=(H.2 j (ready_mono s hji)).2;obtain⟨q,oj,r,hall⟩:=mem_ready.1 s;have t:∀e∈oj.after,Region.binds md e=true->e.on≠i:=fun e he hb heq=>by
    grind
   have B:=qOp_put r (d j oj r hji q t) (fun cs b=>hsel i oi cs b hi) (fun cs b=>hsel j oj cs b r) u z;have g:∀k ok,ops[k]? =some ok->k≠i->(listed.setIfInBounds j true).getD k true=false->
    (∀e∈ok.after,Region.binds md e=true->e.on≠i)->oi.apart ops ok=true:=fun k ok A w c x=>by
    refine d k ok A w ?_ x;by_cases hjk:j=k
    .subst hjk;exact q
    .rw[getD_set_ne true hjk]at c;exact c
   refine qOp_mono (fun D y=>ih (listed.setIfInBounds j true) D (l.set s m) g (ready_mono p (Ne.symm hji)) y.1 ?_) B;rw[Array.setIfInBounds_comm _ _ hji];exact y.2
theorem ze9 {n g:Nat} {Lq:Act->Prop} (hsel:Region.noSelect ops=true) (hs:Region.sinkB md ops n=true) (hc:Region.chainB md ops n=true) (hn:n<ops.size):
 ∀(l:List Oper) (k:Nat) (listed:Array Bool) (a:Act),(∀j,j<l.length->l[j]? =ops[k+j]?)->k+l.length=n->HeadInv md ops n listed->
 Region.lexHead md ops g l.length k listed=true->wpQuiet P ops C Lq l a->
 wpAnyLQ P md ops C n (fun listed' a'=>Region.seqB md ops g n listed'=true/\Lq a') l.length listed a
 | [],k,listed,a,_,hk,_,hB,h=>by
  have:k=n:=by simpa using hk
  subst this;exact⟨by simpa[Region.lexHead]using hB,h⟩
 |o::l,k,listed,a,hl,hk,inv,hB,h=>by
  have d:ops[k]? =some o:=by simpa using(hl 0 (by simp)).symm
  simp only[List.length_cons,Region.lexHead,Bool.and_eq_true]at hB;obtain⟨⟨r,i⟩,f⟩:=hB;have c:k<n:=by simp only[List.length_cons]at hk;omega
  have b:k∈Region.ready md ops listed:=by simpa using r
  have e:qOp P ops C k (wpQuiet P ops C Lq l) a:=by unfold qOp;simp only[d];exact h
  obtain⟨v,p,q⟩:=yieldsIn_of_qOp d e;exact zg2 d (Region.noSelect_spec hsel) hs hc hn c (fun listed' a' m=>seqB_ready m.1) l.length listed a inv (Region.free_spec d i) b p
   (ze9 hsel hs hc hn l (k+1) _ _ (fun j hj=>by have:=hl (j+1) (by simp;omega);simpa[Nat.add_assoc,Nat.add_comm 1 j]using this) (by simp only[List.length_cons]at hk;omega) (inv.set b c) f q)
theorem zc3 {id:Nat} {Q:Exit->Act->World->Prop} {a:Act} {w:World} {l:List Oper} (n:Nat) (hm:P.follows .mixedOrders=true) (hB:Region.lexTailB .any l.toArray n=true) (hC:C {w with drawn:=w.drawn+1})
 (h:wpQuiet P l.toArray C (fun a'=>∀W,C W->wpList P l.toArray Q (l.drop n) a' W) (l.take n) a):(Code.region id l.toArray true).wp P Q a w:=by
 simp only[Region.lexTailB,Bool.and_eq_true,decide_eq_true_eq]at hB;obtain⟨⟨⟨⟨d,s⟩,u⟩,x⟩,e⟩:=hB;have hn':n<l.length:=by simpa using s
 have c:(l.take n).length=n:=by simp;omega
 have f:(l.drop n).length=l.toArray.size-n:=by simp
 have i:HeadInv .any l.toArray n (Array.replicate l.toArray.size false):=
  ⟨by simp,fun j oj _ p=>(by rw[getD_replicate_false]at p;cases p),fun t _ v=>getD_in (by simpa using v) (getD_replicate_false _ _)⟩
 have H:=ze9 (md:=.any) (g:=l.toArray.size-n) d u x s (l.take n) 0 _ a (fun j o=>by
  have k:j<n:=by rw[c]at o;exact o
  simp[k]) (by simpa using c) i (by rw[c];exact e) h
 refine wp_region_any hm ?_;have:=zc5 (Q':=Q) (g:=l.toArray.size-n) (fun b a' q m r=>by
  have:=wpAny_of_seq (md:=.any) (Q':=Q) (l.drop n) n b a' q (fun j=>by simp[List.getElem?_drop]) (by rw[f];exact r.1) (r.2 q m);rwa[f]at this) _ _ _ _ hC H
 rw[c,show n+(l.toArray.size-n)=l.toArray.size by omega]at this;exact this
end
theorem zbr {P:Program} {id:Nat} {Q:Exit->Act->World->Prop} {a:Act} {w:World} {l:List Oper} (n:Nat) (B:Nat) (w0:World) (hm:P.follows .mixedOrders=true) (hB:Region.lexTailB .any l.toArray n=true) (h0:Below B w0 w)
 (h:wpQuiet P l.toArray (fun W=>∃x:WB B w0,W=x.w) (fun a'=>∀W,(∃x:WB B w0,W=x.w)->wpList P l.toArray Q (l.drop n) a' W) (l.take n) a):(Code.region id l.toArray true).wp P Q a w:=
 zc3 (C:=fun W=>∃x:WB B w0,W=x.w) n hm hB ⟨⟨_,below_drewN h0 1⟩,rfl⟩ h
open _root_.Go.Proofs.Tryz
open _root_.Go.Lib (hid)
set_option maxRecDepth 100000
set_option maxHeartbeats 16000000
theorem zvj {g:Nat} {w w1 w2:World} (h1:Below w.heap.size w w1) (h2:Kept1 g w1 w2):zbj w w2 (fun k=>k=g):=
 ⟨h2.os.trans h1.os,h2.tape.trans h1.tape,h2.output.trans h1.output,by rw[h2.size];exact h1.size,fun k a b=>(h2.block k b).trans (h1.block k a)⟩
theorem ze0 (mb:Nat) (A:Option Addr) (c:Nat) (root:Int) (vs:List NV) (ns:List Gr.Nd) (B:Nat) (hr:Gr.Refs ns) (hl:ns.length<=1073741823) (hks:∀n∈ns,n.keys.length<=1073741823/\n.items.length<=1073741823)
 (m:List Bool) (a:Nat) (w:World) (h:GAt w B A vs ns) (hB:B<=mb) (hm:Blk w mb 4 (bcells m)) (hml:m.length=ns.length) (ha:a<ns.length) (hu:Gr.unm ns.length m<=ns.length):
 Calls prog 25 #[.agg #[.slice A ns.length c,.int .i64 root],.int .i64 a,.slice (some ⟨mb,0,none⟩) ns.length ns.length] w fun e w'=>e=.returned (.tuple #[])/\zbj w w' (fun k=>k=mb)/\Blk w' mb 4 (bcells (Gr.dvisit (Gr.succ ns) ns.length m a)):=by
 have l:B<=w.heap.size:=Nat.le_trans hB (Nat.le_of_lt hm.lt);have H:=hid h;have s:=hid hm;clear h hm;go_enter func25,ntmps25;go_upto_region 3 with fail;obtain⟨d,b⟩:=ex (((w.alloc (.cells #[.slice A ns.length c,.int .i64 root] 24)).alloc (.cells #[.slice (some ⟨mb,0,none⟩) ns.length ns.length] 52)).alloc (.cells #[.func (.func 42) #[] #[.pointer (some ⟨w.heap.size+1,0,none⟩),.pointer (some ⟨w.heap.size,0,none⟩),.pointer (some ⟨w.heap.size+1+1,0,none⟩)]] 67))
 have j:Below w.heap.size w d:=by rw[<-b];exact(((Below.refl _ _).alloc (Nat.le_refl _) _).alloc (by simp) _).alloc (by simp;omega) _
 have t:Blk d w.heap.size 24 #[.slice A ns.length c,.int .i64 root]:=by rw[<-b];exact((Blk.new _ _ _).alloc _).alloc _
 have r:Blk d (w.heap.size+1) 52 #[.slice (some ⟨mb,0,none⟩) ns.length ns.length]:=by
  rw[<-b];have:=Blk.new (w.alloc (.cells #[.slice A ns.length c,.int .i64 root] 24)) 52 #[.slice (some ⟨mb,0,none⟩) ns.length ns.length];rw[World.size_alloc]at this;exact this.alloc _
 have p:Blk d (w.heap.size+1+1) 67 #[.func (.func 42) #[] #[.pointer (some ⟨w.heap.size+1,0,none⟩),.pointer (some ⟨w.heap.size,0,none⟩),.pointer (some ⟨w.heap.size+1+1,0,none⟩)]]:=by
  rw[<-b];have:=Blk.new ((w.alloc (.cells #[.slice A ns.length c,.int .i64 root] 24)).alloc (.cells #[.slice (some ⟨mb,0,none⟩) ns.length ns.length] 52)) 67 #[.func (.func 42) #[] #[.pointer (some ⟨w.heap.size+1,0,none⟩),.pointer (some ⟨w.heap.size,0,none⟩),.pointer (some ⟨w.heap.size+1+1,0,none⟩)]];rw[World.size_alloc,World.size_alloc]at this;exact this
 have v0:d.cell? ⟨w.heap.size+1+1,0,none⟩=some (.func (.func 42) #[] #[.pointer (some ⟨w.heap.size+1,0,none⟩),.pointer (some ⟨w.heap.size,0,none⟩),.pointer (some ⟨w.heap.size+1+1,0,none⟩)]):=p.cell 0;have i:RV d mb (w.heap.size+1) w.heap.size (w.heap.size+1+1) A c root vs ns B:=⟨r,t,p,H.out.below (j.mono l),hB⟩
 have u:=hid (zou mb (w.heap.size+1) w.heap.size (w.heap.size+1+1) A c root vs ns B hr hl hks ns.length m a d i (s.out.below j s.out.lt) hml ha hu);have v:=hid j;rw[b];clear b j t r p i;go_wp2_with fail;refine u.out.mono ?_;rintro e w5 ⟨rfl,g,f⟩;have o:=hid g;have q:=hid f;clear g f;go_wp2_with fail;go_end0;exact⟨rfl,zvj v.out o.out,q.out⟩
def tl:Nat->Code->Code
 | 0,c=>c
 |n+1,.seq _ b=>tl n b
 |_+1,c=>c
open Gr
def zle (s:Gr.Str) (a n ab:Nat) (w:World) (e:Ending) (w':World):Prop:=Kept1 ab w w'/\((∃v:Nat,numAt s a n=some v/\e=.returned (.tuple #[.int .i64 (v:Int),.bool true])/\Blk w' ab 3 #[.int .i64 ((a+n:Nat):Int)])\/(numAt s a n=none/\e=.returned (.tuple #[.int .i64 0,.bool false])/\∃a':Nat,a'<=s.length/\Blk w' ab 3 #[.int .i64 (a':Int)]))
theorem ztd (s:Gr.Str) (hl:s.length<=1073741823) (ab sb a n:Nat) (j:Int) (hj:j=(n:Int)) (hn:n<=9) (ha:a<=s.length) (w:World) (hA:Blk w ab 3 #[.int .i64 (a:Int)]) (hS:Blk w sb 9 #[.string ⟨s.toArray⟩]):
 Calls prog 81 #[.int .i64 j,.pointer (some ⟨ab,0,none⟩),.pointer (some ⟨sb,0,none⟩)] w (zle s a n ab w):=by
 subst hj;have o:sb≠ab:=by
  intro e;subst e;have:=hA.symm.trans hS;simp at this
 have x:=hid hA;have t:=hid hS;clear hA hS;go_enter func81,ntmps81;go_wp2_with fail;go_loopw [6,8] (fun s6 s8 wr=>∃k v:Nat,k<=n/\v<=999999999/\a+k<=s.length/\s6=.int .i64 (v:Int)/\s8=.int .i64 (k:Int)/\Hid (((s.drop a).take k).all Gr.dig=true/\v=Gr.val ((s.drop a).take k)/\Blk wr ab 3 #[.int .i64 ((a+k:Nat):Int)]/\Kept1 ab w wr)) (fun _ s8 _=>n-(intOf s8).toNat)
 case atStart=>exact⟨0,0,by omega,by omega,by omega,rfl,rfl,hid ⟨by simp,by simp[Gr.val],x.out,Kept1.refl _ _⟩⟩
 case round=>
  obtain⟨k,v,hk,hv,hak,rfl,rfl,c⟩:=hrel;have qA:wr.cell? ⟨ab,0,none⟩=some (.int .i64 ((a+k:Nat):Int)):=c.out.2.2.1.cell 0;have qF:∀j,wr.frozen? ⟨ab,j,none⟩=false:=c.out.2.2.1.frozen;have qS:wr.cell? ⟨sb,0,none⟩=some (.string ⟨s.toArray⟩):=(c.out.2.2.2.blk t.out o).cell 0;by_cases hlt:k<n
  .have i:(k:Int)<(n:Int):=by omega
   by_cases hltS:a+k<s.length
   .have m:¬(s.length:Int)<=((a+k:Nat):Int):=by omega
    obtain⟨b,l⟩:∃b:Nat,(s[a+k]'hltS).toNat=b:=⟨_,rfl⟩
    have hbv:(((⟨s.toArray⟩:ByteArray)[a+k]'(by simpa[ByteArray.size]using hltS)).toNat:Int)=(b:Int):=by rw[<-l];rfl
    have hbl:b<256:=by rw[<-l];exact(s[a+k]'hltS).toNat_lt
    have f:=hid (zd4 (s[a+k]'hltS) b l);clear l;by_cases h48:48<=b
    .have p:¬(b:Int)<48:=by omega
     have b48:(48:Int)<=(b:Int):=by omega
     by_cases h57:b<=57
     .have q:¬(57:Int)<(b:Int):=by omega
      have u:=hid (zco s a k hltS);have d:Hid (((s.drop a).take (k+1)).all Gr.dig=true/\10*v+(b-48)=Gr.val ((s.drop a).take (k+1))):=hid (by
       rw[u.out,List.all_append,c.out.1,zbi,<-c.out.2.1,f.out.2];exact⟨by simp[f.out.1,h48,h57],rfl⟩)
      have r:10*v+(b-48)<=999999999:=by
       rw[d.out.2];have:=zld _ d.out.1 (by simp;omega);omega
      have h:Hid (Blk (wr.setCell ⟨ab,0,none⟩ (.int .i64 (((a+k:Nat):Int)+1))) ab 3 #[.int .i64 ((a+(k+1):Nat):Int)]/\Kept1 ab w (wr.setCell ⟨ab,0,none⟩ (.int .i64 (((a+k:Nat):Int)+1)))):=hid ⟨by rw[show((a+(k+1):Nat):Int)=((a+k:Nat):Int)+1 from by omega];exact c.out.2.2.1.set_ 0 _,c.out.2.2.2.trans (Kept1.set 0 _)⟩;go_wp2;go_roundw
      case rel=>exact⟨k+1,10*v+(b-48),by omega,r,by omega,by exact congrArg (Value.int .i64) (by omega),by go_num,hid ⟨d.out.1,d.out.2,h.out.1,h.out.2⟩⟩
      case measure=>simp[intOf];omega
     .have q:(57:Int)<(b:Int):=by omega
      have g:=hid (zdp s a n k hlt hltS (by rw[f.out.1];simp[h57]));go_wp2;go_ret2;exact⟨c.out.2.2.2,.inr ⟨g.out,rfl,a+k,by omega,c.out.2.2.1⟩⟩
    .have p:(b:Int)<48:=by omega
     have g:=hid (zdp s a n k hlt hltS (by rw[f.out.1];simp[h48]));go_wp2;go_ret2;exact⟨c.out.2.2.2,.inr ⟨g.out,rfl,a+k,by omega,c.out.2.2.1⟩⟩
   .have m:(s.length:Int)<=((a+k:Nat):Int):=by omega
    have g:=hid (zdc s a n (by omega));go_wp2;go_ret2;exact⟨c.out.2.2.2,.inr ⟨g.out,rfl,a+k,by omega,c.out.2.2.1⟩⟩
  .obtain rfl:k=n:=by omega
   have i:¬(k:Int)<(k:Int):=by omega
   have g:Hid (numAt s a k=some v):=hid (by rw[zit s a k (by omega) c.out.1,c.out.2.1]);clear hlt;go_wp2;go_ret2;exact⟨c.out.2.2.2,.inl ⟨v,g.out,rfl,c.out.2.2.1⟩⟩
def posAt (a first i:Nat):Nat:=if i=0 then a else a+first+3*(i-1)
def fldAt (s:Gr.Str) (a first:Nat) (c:Nat) (i:Nat):Option Nat:=if i=0 then numAt s a first else if isAt s (posAt a first i) (UInt8.ofNat c)=true then numAt s (posAt a first i+1) 2 else none
def mC (sh:Nat) (f:Nat->Nat) (nn z:Nat):Array Value:=#[.int .i64 (sh:Int),.int .i64 (f 0:Int),.int .i64 (f 1:Int),.int .i64 (f 2:Int),.int .i64 (f 3:Int),.int .i64 (f 4:Int),.int .i64 (f 5:Int),.int .i64 (f 6:Int),.int .i64 (f 7:Int),.int .i64 (nn:Int),.int .u8 (z:Int)]
def fset (f:Nat->Nat) (i v:Nat):Nat->Nat:=fun j=>if j=i then v else f j
theorem zyh {sh nn z:Nat} {f:Nat->Nat} {i:Nat} (h:i<8) (v:Nat):(mC sh f nn z).setIfInBounds (1+i) (.int .i64 (v:Int))=mC sh (fset f i v) nn z:=by
 have:i=0\/i=1\/i=2\/i=3\/i=4\/i=5\/i=6\/i=7:=by omega
 rcases this with rfl|rfl|rfl|rfl|rfl|rfl|rfl|rfl<;>rfl
theorem zut {sh nn z:Nat} {f:Nat->Nat} {i:Nat} (h:i<8):(mC sh f nn z)[1+i]? =some (.int .i64 (f i:Int)):=by
 have:i=0\/i=1\/i=2\/i=3\/i=4\/i=5\/i=6\/i=7:=by omega
 rcases this with rfl|rfl|rfl|rfl|rfl|rfl|rfl|rfl<;>rfl
theorem zqk {a first i:Nat} (h:0<i):posAt a first (i+1)=posAt a first i+1+2:=by
 unfold posAt;rw[if_neg (by omega),if_neg (by omega)];omega
theorem zql {a first:Nat}:posAt a first 1=a+first:=by simp[posAt]
theorem zwj {s:Gr.Str} {p c b:Nat} (hp:p<s.length) (hb:(s[p]'hp).toNat=b) (hc:c<256) (h:b≠c):isAt s p (UInt8.ofNat c)=false:=by
 unfold isAt;rw[List.getElem?_eq_getElem hp];simp;intro e;apply h;rw[<-hb,e];simp;omega
theorem zlf {s:Gr.Str} {p c b:Nat} (hp:p<s.length) (hb:(s[p]'hp).toNat=b) (h:b=c):isAt s p (UInt8.ofNat c)=true:=by
 unfold isAt;rw[List.getElem?_eq_getElem hp];subst h;rw[<-hb];simp
theorem zhg {s:Gr.Str} {p:Nat} {c:UInt8} (hp:s.length<=p):isAt s p c=false:=by
 unfold isAt;rw[List.getElem?_eq_none hp];rfl
def KM (mb ab:Nat) (w w':World):Prop:=zbj w w' (fun k=>k=mb\/k=ab)
theorem KM.refl (mb ab:Nat) (w:World):KM mb ab w w:=⟨rfl,rfl,rfl,Nat.le_refl _,fun _ _ _=>rfl⟩
theorem KM.trans {mb ab:Nat} {a b c:World} (h:KM mb ab a b) (h2:KM mb ab b c):KM mb ab a c:=
 ⟨h2.os.trans h.os,h2.tape.trans h.tape,h2.output.trans h.output,Nat.le_trans h.size h2.size,fun k d e=>(h2.block k (Nat.lt_of_lt_of_le d h.size) e).trans (h.block k d e)⟩
theorem KM.ofA {mb ab:Nat} {a b:World} (h:Kept1 ab a b):KM mb ab a b:=⟨h.os,h.tape,h.output,Nat.le_of_eq h.size.symm,fun k _ c=>h.block k (fun e=>c (.inr e))⟩
theorem KM.ofM {mb ab:Nat} {a b:World} (h:Kept1 mb a b):KM mb ab a b:=⟨h.os,h.tape,h.output,Nat.le_of_eq h.size.symm,fun k _ c=>h.block k (fun e=>c (.inl e))⟩
theorem KM.blk {mb ab k:Nat} {a b:World} {t:TypeId} {cs:Array Value} (h:KM mb ab a b) (hb:Blk a k t cs) (h1:k≠mb) (h2:k≠ab):Blk b k t cs:=(h.block k hb.lt (by rintro(e|e);exact h1 e;exact h2 e)).trans hb
def FldPost (s:Gr.Str) (a first c o n mb ab sh:Nat) (f:Nat->Nat) (nn z:Nat) (w:World) (e:Ending) (w':World):Prop:=
 KM mb ab w w'/\∃f':Nat->Nat,Blk w' mb 94 (mC sh f' nn z)/\((e=.returned (.bool true)/\(∀j,j<n->fldAt s a first c j=some (f' (o+j)))/\(∀j,j<o\/o+n<=j->f' j=f j)/\Blk w' ab 3 #[.int .i64 (posAt a first n:Int)]/\posAt a first n<=s.length)\/(e=.returned (.bool false)/\(∃j,j<n/\fldAt s a first c j=none)/\∃p:Nat,p<=s.length/\Blk w' ab 3 #[.int .i64 (p:Int)]))
theorem zd5 (s:Gr.Str) (hl:s.length<=1073741823) (ab sb fb mb a first c o n k:Nat) (sh:Nat) (f:Nat->Nat) (nn z:Nat) (j jc:Int) (hj:j=(first:Int)) (hjc:jc=(c:Int)) (hc:c<256) (hfirst:first<=9) (hn:n<=3) (hnk:n<=k) (hk:k<=8) (ho:o+n<=8) (O:Nat) (hO:O=1+o) (ha:a<=s.length) (w:World) (hA:Blk w ab 3 #[.int .i64 (a:Int)]) (hS:Blk w sb 9 #[.string ⟨s.toArray⟩]) (hF:Blk w fb 124 #[.func (.func 81) #[] #[.pointer (some ⟨ab,0,none⟩),.pointer (some ⟨sb,0,none⟩)]]) (hM:Blk w mb 94 (mC sh f nn z)):
 Calls prog 82 #[.slice (some ⟨mb,O,none⟩) n k,.int .i64 j,.int .u8 jc,.pointer (some ⟨ab,0,none⟩),.pointer (some ⟨sb,0,none⟩),.pointer (some ⟨fb,0,none⟩)] w (FldPost s a first c o n mb ab sh f nn z w):=by
 subst hj;subst hjc;subst hO;have Z:sb≠ab:=hS.ne_ hA (by decide);have V:sb≠mb:=hS.ne_ hM (by decide);have S:fb≠ab:=hF.ne_ hA (by decide);have Y:fb≠mb:=hF.ne_ hM (by decide);have X:mb≠ab:=hM.ne_ hA (by decide);have HA:=hid hA;have HS:=hid hS;have P:=hid hF;have HM:=hid hM;have d:=hid (show(sb≠ab/\sb≠mb)/\(fb≠ab/\fb≠mb)/\mb≠ab from⟨⟨Z,V⟩,⟨S,Y⟩,X⟩);clear hA hS hF hM Z V S Y X;have ac:Hid (∀(W:World) (p q:Nat),q<=9->p<=s.length->Blk W ab 3 #[.int .i64 (p:Int)]->Blk W sb 9 #[.string ⟨s.toArray⟩]->Calls prog 81 #[.int .i64 (q:Int),.pointer (some ⟨ab,0,none⟩),.pointer (some ⟨sb,0,none⟩)] W (zle s p q ab W)):=hid (fun W p q hq L h1 h2=>ztd s hl ab sb p q _ rfl hq L W h1 h2);go_enter func82,ntmps82;go_wp2_with fail;go_loopw [10,11,12,13,16] (fun s10 s11 s12 s13 s16 wr=>∃i:Nat,i<=n/\s16=.int .i64 (i:Int)/\Hid (∃f':Nat->Nat,KM mb ab w wr/\Blk wr mb 94 (mC sh f' nn z)/\(∀j,j<i->fldAt s a first c j=some (f' (o+j)))/\(∀j,j<o\/o+n<=j->f' j=f j)/\Blk wr ab 3 #[.int .i64 (posAt a first i:Int)]/\posAt a first i<=s.length)) (fun _ _ _ _ s16 _=>n-(intOf s16).toNat)
 case atStart=>exact⟨0,by omega,rfl,hid ⟨f,KM.refl _ _ _,HM.out,fun j hj=>absurd hj (by omega),fun _ _=>rfl,by simpa[posAt]using HA.out,by simpa[posAt]using ha⟩⟩
 case round=>
  obtain⟨i,hi,rfl,HV⟩:=hrel;obtain⟨f',C,U,T,aa,D,u⟩:=HV.out;obtain⟨p,L⟩:=ex (posAt a first i)
  rw[L]at D u;have qS:wr.cell? ⟨sb,0,none⟩=some (.string ⟨s.toArray⟩):=(C.blk HS.out d.out.1.2 d.out.1.1).cell 0;have qA:wr.cell? ⟨ab,0,none⟩=some (.int .i64 (p:Int)):=D.cell 0;have qAF:∀j,wr.frozen? ⟨ab,j,none⟩=false:=D.frozen;have qF:wr.cell? ⟨fb,0,none⟩=some (.func (.func 81) #[] #[.pointer (some ⟨ab,0,none⟩),.pointer (some ⟨sb,0,none⟩)]):=(C.blk P.out d.out.2.1.2 d.out.2.1.1).cell 0;have qF1:∀v,(wr.setCell ⟨ab,0,none⟩ v).cell? ⟨fb,0,none⟩=some (.func (.func 81) #[] #[.pointer (some ⟨ab,0,none⟩),.pointer (some ⟨sb,0,none⟩)]):=fun v=>((C.blk P.out d.out.2.1.2 d.out.2.1.1).far d.out.2.1.1 v).cell 0
  have G:=hid L;have m:Hid (KM mb ab w wr/\Blk wr mb 94 (mC sh f' nn z)/\(∀j,j<i->fldAt s a first c j=some (f' (o+j)))/\(∀j,j<o\/o+n<=j->f' j=f j)/\Blk wr ab 3 #[.int .i64 (p:Int)]/\Blk wr sb 9 #[.string ⟨s.toArray⟩]):=hid ⟨C,U,T,aa,D,C.blk HS.out d.out.1.2 d.out.1.1⟩;clear C U T aa D L HV;have t:Hid (∀(W:World) (q:Nat) (x:Option Nat),q<=s.length->x=none->fldAt s a first c i=x->i<n->KM mb ab wr W->Blk W mb 94 (mC sh f' nn z)->Blk W ab 3 #[.int .i64 (q:Int)]->FldPost s a first c o n mb ab sh f nn z w (.returned (.bool false)) W):=hid (fun W q x hq hx af ad K J I=>⟨m.out.1.trans K,f',J,.inr ⟨rfl,⟨i,ad,af.trans hx⟩,q,hq,I⟩⟩);have R:Hid (∀(W:World) (v:Nat),fldAt s a first c i=some v->KM mb ab wr W->Blk W mb 94 (mC sh f' nn z)->Blk W ab 3 #[.int .i64 (posAt a first (i+1):Int)]->i<n->posAt a first (i+1)<=s.length->∃i':Nat,i'<=n/\Value.int .i64 ((i:Int)+1)=.int .i64 (i':Int)/\Hid (∃f'':Nat->Nat,KM mb ab w (W.setCell ⟨mb,1+o+i,none⟩ (.int .i64 (v:Int)))/\Blk (W.setCell ⟨mb,1+o+i,none⟩ (.int .i64 (v:Int))) mb 94 (mC sh f'' nn z)/\(∀j,j<i'->fldAt s a first c j=some (f'' (o+j)))/\(∀j,j<o\/o+n<=j->f'' j=f j)/\Blk (W.setCell ⟨mb,1+o+i,none⟩ (.int .i64 (v:Int))) ab 3 #[.int .i64 (posAt a first i':Int)]/\posAt a first i'<=s.length)):=hid (fun W v A K J I ad u=>by
   refine⟨i+1,by omega,rfl,hid ⟨fset f' (o+i) v,m.out.1.trans (K.trans (KM.ofM (Kept1.set _ _))),?_,?_,?_,?_,u⟩⟩
   .have:=J.set_ (1+o+i) (.int .i64 (v:Int));rw[show 1+o+i=1+(o+i)from by omega]at this ⊢;rwa[zyh (by omega)]at this
   .intro j hj;by_cases e:j=i
    .subst e;rw[A];simp[fset]
    .rw[m.out.2.2.1 j (by omega)];simp[fset,e]
   .intro j hj;rw[<-m.out.2.2.2.1 j hj];unfold fset;rw[if_neg (by omega)]
   .exact I.far d.out.2.2.symm _)
  by_cases hlt:i<n
  .have Q:(i:Int)<(n:Int):=by omega
   by_cases h0:i=0
   .have ae:(i:Int)=0:=by omega
    have ah:¬(0:Int)<(i:Int):=by omega
    subst h0;go_wp2_with fail;refine(ac.out _ p first hfirst u m.out.2.2.2.2.1 m.out.2.2.2.2.2).mono ?_;rintro e B ⟨l,⟨v,A,rfl,h⟩|⟨A,rfl,p2,hp2,h⟩⟩
    .have r:=l.blk m.out.2.1 d.out.2.2;have qm:B.cell? ⟨mb,1+o,none⟩=some (.int .i64 (f' o:Int)):=by rw[r.cell];exact zut (i:=o) (by omega)
     have ag:∀j,B.frozen? ⟨mb,j,none⟩=false:=r.frozen;have F:Hid (fldAt s a first c 0=some v/\Blk B ab 3 #[.int .i64 (posAt a first 1:Int)]/\posAt a first 1<=s.length):=hid (by
      have H:p=a:=by rw[<-G.out];rfl
      subst H;rw[zql];exact⟨by simpa[fldAt]using A,h,(zc1 A (by omega)).2.2⟩)
     have E:=hid (And.intro l r);clear l A h r;go_wp2;go_roundw
     case rel=>
      obtain⟨i',g1,g2,g3⟩:=R.out B v F.out.1 (KM.ofA E.out.1) E.out.2 F.out.2.1 hlt F.out.2.2;exact⟨i',g1,by simpa using g2,g3⟩
     case measure=>simp[intOf];omega
    .have F:Hid (FldPost s a first c o n mb ab sh f nn z w (.returned (.bool false)) B):=hid (t.out B p2 _ hp2 rfl (by
      have H:p=a:=by rw[<-G.out];rfl
      subst H;simpa[fldAt]using A) hlt (KM.ofA l) (l.blk m.out.2.1 d.out.2.2) h)
     clear l A h;go_wp2;go_ret;exact F.out
   .have ae:¬(i:Int)=0:=by omega
    have ah:(0:Int)<(i:Int):=by omega
    by_cases hps:p<s.length
    .have M:¬(s.length:Int)<=(p:Int):=by omega
     obtain⟨b,hb⟩:∃b:Nat,(s[p]'hps).toNat=b:=⟨_,rfl⟩
     have hbv:(((⟨s.toArray⟩:ByteArray)[p]'(by simpa[ByteArray.size]using hps)).toNat:Int)=(b:Int):=by rw[<-hb];rfl
     have hbl:b<256:=by rw[<-hb];exact(s[p]'hps).toNat_lt
     have HB:=hid hb;clear hb;by_cases hbc:b=c
     .have N:(b:Int)=(c:Int):=by omega
      go_wp2_with fail;refine(ac.out _ (p+1) 2 (by omega) (by omega) (m.out.2.2.2.2.1.set_ 0 _) (m.out.2.2.2.2.2.far d.out.1.1 _)).mono ?_;rintro e B ⟨l,⟨v,A,rfl,h⟩|⟨A,rfl,p2,hp2,h⟩⟩
      .have y:=(Kept1.set (g:=ab) (w:=wr) 0 (.int .i64 ((p+1:Nat):Int))).trans l;have r:=y.blk m.out.2.1 d.out.2.2;have qm:B.cell? ⟨mb,1+o+i,none⟩=some (.int .i64 (f' (o+i):Int)):=by rw[r.cell,show 1+o+i=1+(o+i)from by omega];exact zut (by omega)
       have ag:∀j,B.frozen? ⟨mb,j,none⟩=false:=r.frozen;have F:Hid (fldAt s a first c i=some v/\Blk B ab 3 #[.int .i64 (posAt a first (i+1):Int)]/\posAt a first (i+1)<=s.length):=hid (by
        rw[zqk (by omega),G.out];refine⟨?_,h,(zc1 A (by omega)).2.2⟩;unfold fldAt;rw[if_neg h0,G.out,if_pos (zlf hps HB.out hbc)];exact A)
       have E:=hid (And.intro y r);clear l y A h r;go_wp2;go_roundw
       case rel=>
        exact R.out B v F.out.1 (KM.ofA E.out.1) E.out.2 F.out.2.1 hlt F.out.2.2
       case measure=>simp[intOf];omega
      .have y:=(Kept1.set (g:=ab) (w:=wr) 0 (.int .i64 ((p+1:Nat):Int))).trans l;have F:Hid (FldPost s a first c o n mb ab sh f nn z w (.returned (.bool false)) B):=hid (t.out B p2 _ hp2 rfl (by
        unfold fldAt;rw[if_neg h0,G.out,if_pos (zlf hps HB.out hbc)];exact A) hlt (KM.ofA y) (y.blk m.out.2.1 d.out.2.2) h)
       clear l y A h;go_wp2;go_ret;exact F.out
     .have N:¬(b:Int)=(c:Int):=by omega
      go_wp2;go_ret;exact t.out wr p _ u rfl (by unfold fldAt;rw[if_neg h0,G.out,zwj hps HB.out hc hbc];rfl) hlt (KM.refl _ _ _) m.out.2.1 m.out.2.2.2.2.1
    .have M:(s.length:Int)<=(p:Int):=by omega
     go_wp2;go_ret;exact t.out wr p _ u rfl (by unfold fldAt;rw[if_neg h0,G.out,zhg (by omega)];rfl) hlt (KM.refl _ _ _) m.out.2.1 m.out.2.2.2.2.1
  .obtain rfl:i=n:=by omega
   have Q:¬(i:Int)<(i:Int):=by omega
   clear hlt;go_wp2;go_ret;exact⟨m.out.1,f',m.out.2.1,.inl ⟨rfl,m.out.2.2.1,m.out.2.2.2.1,by rw[G.out];exact m.out.2.2.2.2.1,by rw[G.out];exact u⟩⟩
end Go.Proofs.YtpjmhafmeieloaaGreatDoor

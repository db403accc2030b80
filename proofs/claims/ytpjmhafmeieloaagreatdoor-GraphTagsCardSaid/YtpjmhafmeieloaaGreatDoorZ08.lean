import Derived.Test.YtpjmhafmeieloaaGreatDoorZ07
import Derived.Test.YtpjmhafmeieloaaGreatDoorGrDecR3
namespace Go.Proofs.YtpjmhafmeieloaaGreatDoor
open Gr
open _root_.Go.Proofs.Tryz
open _root_.Go.Lib (hid)
set_option maxRecDepth 100000
set_option maxHeartbeats 16000000
open Go.RowKit
section
variable {y:TL} {B D:Nat} {A:Option Addr} {c:Nat} {root:Int} {vs:List NV} {ns:List Gr.Nd}
theorem zl7 (hr:Refs ns) (hl:ns.length<=1073741823) (hks:∀n∈ns,n.keys.length<=1073741823/\n.items.length<=1073741823):
 ∀(f:Nat) (s:Gr.TS) (v:Nat) (G:Nat->Prop) (w:World) (sv zv:Value),TAt y B D A c root vs ns w s sv zv->Gr.Inv (Gr.succ ns) ns.length G s->v<ns.length->s.ix v=0->(∀g,G g->Gr.Reach (Gr.succ ns) g v)->unv ns.length s<=f->
 Calls prog 59 (y.args (.int .i64 v)) w (TPost y B D A c root vs ns w sv zv (tvisit (Gr.succ ns) f s v)):=by
 intro f
 induction f with
 |zero=>
  intro s v G w sv zv h N W p x hu;have:=zei N W p;omega
 |succ f ih=>
  intro s v G w sv zv h N W p x hu;have hvI:(v:Int)<(ns.length:Int):=by omega
  have hnx:s.next<=1073741823:=by have:=N.bn;omega
  have hsl:s.stk.length<=1073741823:=by have:=N.bz;omega
  have IH:=hid ih;have U:Hid ((∀g,G g->Gr.Reach (Gr.succ ns) g v)/\unv ns.length s<=f+1):=hid ⟨x,hu⟩;have Z:=hid N;have a:=hid h.ok;have T:=h.alloc (.cells #[.int .i64 v] 3);have q:ABox y D (w.alloc (.cells #[.int .i64 v] 3)) sv zv w.heap.size v:=⟨Blk.new _ _ _,h.hd,fun e=>by have:=(h.stk.lt _ e).2;omega,fun e=>by have:=(h.siz.lt _ e).2;omega⟩
  have E:TF y sv zv w (w.alloc (.cells #[.int .i64 v] 3)) sv zv:=(TF.refl _ _ _ _).alloc _;have H:=hid h;clear ih N x hu h;unfold TL.args;go_enter func59,ntmps59;obtain⟨X,J⟩:=ex (w.alloc (.cells #[.int .i64 v] 3))
  rw[J]at T q E;obtain⟨K,F⟩:=ex w.heap.size
  have n0:X.cell? ⟨y.bN,0,none⟩=some (.int .i64 (s.next:Int)):=T.bN.cell 0;have nf:∀i,X.frozen? ⟨y.bN,i,none⟩=false:=T.bN.frozen;have hw:IntKind.i64.wrap ((s.next:Int)+1)=(s.next:Int)+1:=IntWalk.i64_in _ (by omega);go_upto_region 1 with fail;(try rw[J]);rw[F]at q;(try rw[F]);clear J F;go_upto_region 2 with fail;obtain⟨m,o⟩:=ex (X.setCell ⟨y.bN,0,none⟩ (.int .i64 ((s.next:Int)+1)))
  have L:TF y sv zv X m sv zv:=by rw[<-o];exact(TF.refl _ _ _ _).set y.bN 0 (.inl rfl) _
  have d:TAt y B D A c root vs ns m {s with next:=s.next+1} sv zv:=by rw[<-o];exact T.setN (s.next+1)
  have l:=q.kept a.out L;have P:=hid (E.trans L);rw[o];have i0:m.cell? ⟨y.bI,0,none⟩=some (.slice (some ⟨y.rI,0,none⟩) ns.length ns.length):=d.xI.cell 0;have l0:m.cell? ⟨y.bL,0,none⟩=some (.slice (some ⟨y.rL,0,none⟩) ns.length ns.length):=d.xL.cell 0;have a0:m.cell? ⟨K,0,none⟩=some (.int .i64 (v:Int)):=l.b.cell 0;have n1:m.cell? ⟨y.bN,0,none⟩=some (.int .i64 ((s.next:Int)+1)):=d.bN.cell 0;have rf:∀i,m.frozen? ⟨y.rI,i,none⟩=false:=d.rI.frozen;have lf:∀i,m.frozen? ⟨y.rL,i,none⟩=false:=d.rL.frozen;have xv:m.cell? ⟨y.rI,v,none⟩=some (.int .i64 0):=by
   rw[d.rI.cell,zad (by show v<s.idx.length;rw[Z.out.li];exact W)];show some (Value.int .i64 ((s.ix v:Nat):Int))=_;rw[p];rfl
  have yv:m.cell? ⟨y.rL,v,none⟩=some (.int .i64 ((s.lw v:Nat):Int)):=by
   rw[d.rL.cell,zad (by show v<s.low.length;rw[Z.out.ll];exact W)];rfl
  have q1:y.bN≠y.rI:=a.out.nI;have q2:y.bN≠y.rL:=a.out.nL;have q3:y.rI≠y.rL:=a.out.iL;have q4:y.rL≠y.rI:=a.out.iL.symm;have q5:y.bL≠y.rI:=d.xL.ne_ d.rI (by decide);have q6:y.bL≠y.rL:=d.xL.ne_ d.rL (by decide);have q7:y.bI≠y.rI:=d.xI.ne_ d.rI (by decide);have q8:y.bI≠y.rL:=d.xI.ne_ d.rL (by decide);have q9:K≠y.rI:=by have:=l.hi;have:=a.out.dI;omega
  have aa:K≠y.rL:=by have:=l.hi;have:=a.out.dL;omega
  have H2:=hid d;have V:=hid l;clear T q E n0 nf hw o L d l;go_cut [24] (fun _ C=>TAt y B D A c root vs ns C {s with next:=s.next+1,idx:=s.idx.set v (s.next+1),low:=s.low.set v (s.next+1)} sv zv/\TF y sv zv w C sv zv/\ABox y D C sv zv K v)
  case first=>
   go_region
   all_goals
    go_wp2;go_meet;exact⟨((H2.out.setI v (s.next+1)).setL v (s.next+1)).drew,((P.out.set y.rI v (by simp) _).set y.rL v (by simp) _).drew,
     V.out.kept a.out (((TF.refl _ _ _ _).set y.rI v (by simp) _).set y.rL v (by simp) _).drew⟩
  case rest=>
   obtain⟨t,Y,S⟩:=hcut;clear i0 l0 a0 n1 rf lf xv yv q1 q2 q3 q4 q5 q6 q7 q8 q9 aa H2 V P;obtain⟨As,cs,r,_⟩:=t.stk.form;have s0:wc.cell? ⟨y.bS,0,none⟩=some (.slice As s.stk.length cs):=by rw[t.bS.cell 0];show some sv=_;rw[r]
   have a0:wc.cell? ⟨K,0,none⟩=some (.int .i64 (v:Int)):=S.b.cell 0;have e0:=World.new_ne wc _ s0;have HO:Hid (OwnRow intL wc D 3 (.slice As s.stk.length cs) s.stk):=hid (by have:=t.stk;rw[r]at this;exact this);have ae:=hid r;have HT:=hid t;have HF:=hid Y;have HA:=hid S;have hDw:=t.hd;clear r t Y S;go_upto_region 3 with fail;go_cut [28] (fun _ C=>∃sv2,TAt y B D A c root vs ns C {s with next:=s.next+1,idx:=s.idx.set v (s.next+1),low:=s.low.set v (s.next+1),stk:=s.stk++[v]} sv2 zv/\TF y sv zv w C sv2 zv/\ABox y D C sv2 zv K v)
   case first=>
    go_wp2_with (at_builtin;go_must (refine zab _ rfl (.tmp 28) (.tmp 30) 34 3 8 rfl intT D (.slice As s.stk.length cs) s.stk rfl (HO.out.alloc _) _ _ 1 [v] rfl (RowAt.lit1 _ _ rfl _ ?_) ?_ ?_ ?_))
    any_goals (first|rfl|omega| (simp;omega)| (rw[World.size_alloc];omega))
    intro v' w3 k x I;have j:=HT.out.alloc (.cells #[.int .i64 v] 3);rw[<-ae.out]at x I;have M:Blk w3 y.bS 34 _:=j.bS.grown x (fun e=>zbx j.stk j.bS (by decide) e.symm);have pc3:w3.cell? ⟨y.bS,0,none⟩=some sv:=M.cell 0;have pf3:∀i,w3.frozen? ⟨y.bS,i,none⟩=false:=M.frozen;obtain⟨g3,z,O,_⟩:=k.shape (by simp);obtain⟨n3,Q⟩:=ex ((s.stk++[v]).length)
    rw[Q]at O;subst O;have R:=hid j;have ac:=hid k;have HG:=hid x;have ad:=hid I;clear j k x I M Q;go_wp2;go_meet;have f1:=(TF.refl y sv zv wc).alloc (.cells #[.int .i64 v] 3);have u:(Value.slice (some ⟨g3,0,none⟩) n3 z).ownBlock=sv.ownBlock\/(Value.slice (some ⟨g3,0,none⟩) n3 z).ownBlock=some (wc.alloc (.cells #[.int .i64 v] 3)).heap.size:=by rw[World.size_alloc];exact ad.out
    have f2:=f1.trans (TF.grownS R.out HG.out u);exact⟨_,R.out.grownS ac.out HG.out u,HF.out.trans f2,HA.out.kept a.out f2⟩
   case rest=>
    obtain⟨ab,t,Y,S⟩:=hcut;rename_i hK0;apply hK0;exact zl6 hr hl hks Z.out W p U.out.1 U.out.2 IH.out w _ sv zv ab K t Y S
end
def compL (z gb b0 b1 b2 r0 r1 r2:Nat):TL:=⟨z+1+1+1+1,b0,b1,z+1,z+1+1+1,z+1+1+1+1+1,gb,z,b2,r0,r1,r2,z+1+1⟩
theorem zl8 (B z gb b0 b1 b2 r0 r1 r2:Nat) (A:Option Addr) (c:Nat) (root:Int) (vs:List NV) (ns:List Gr.Nd) (wr W:World) (hz:wr.heap.size=z)
 (hW:((((((wr.alloc (.cells #[.slice none 0 0] 34)).alloc (.cells #[.slice none 0 0] 34)).alloc (.cells (bcells (List.replicate ns.length false)) 4)).alloc (.cells #[.slice (some ⟨z+1+1,0,none⟩) ns.length ns.length] 52)).alloc (.cells #[.int .i64 0] 3)).alloc (.cells #[(compL z gb b0 b1 b2 r0 r1 r2).fn] 67))=W)
 (hI:Blk wr b0 34 #[.slice (some ⟨r0,0,none⟩) ns.length ns.length]) (hL:Blk wr b1 34 #[.slice (some ⟨r1,0,none⟩) ns.length ns.length]) (hC:Blk wr b2 34 #[.slice (some ⟨r2,0,none⟩) ns.length ns.length])
 (hrI:Blk wr r0 3 (icells (List.replicate ns.length 0))) (hrL:Blk wr r1 3 (icells (List.replicate ns.length 0))) (hrC:Blk wr r2 3 (jcells (List.replicate ns.length (-1))))
 (hG:Blk wr gb 24 #[.slice A ns.length c,.int .i64 root]) (h01:r0≠r1) (h02:r0≠r2) (h12:r1≠r2) (hB:B<=z) (hB0:B<=r0) (hB1:B<=r1) (hB2:B<=r2) (hat:GAt wr B A vs ns):
 TAt (compL z gb b0 b1 b2 r0 r1 r2) B (z+1+1+1+1+1+1) A c root vs ns W (Gr.tzero ns.length) (.slice none 0 0) (.slice none 0 0)/\Below wr.heap.size wr W/\W.heap.size=z+1+1+1+1+1+1:=by
 have l:Below wr.heap.size wr W:=by rw[<-hW];exact((((((Below.refl _ _).alloc (Nat.le_refl _) _).alloc (by simp) _).alloc (by simp;omega) _).alloc (by simp;omega) _).alloc (by simp;omega) _).alloc (by simp;omega) _
 have f:W.heap.size=z+1+1+1+1+1+1:=by rw[<-hW];simp[hz]
 have a:=hI.lt;have i:=hL.lt;have b:=hC.lt;have n:=hrI.lt;have q:=hrL.lt;have h:=hrC.lt;have g:Blk W z 34 #[.slice none 0 0]:=by rw[<-hW,<-hz];exact(((((Blk.new _ _ _).alloc _).alloc _).alloc _).alloc _).alloc _
 have o:Blk W (z+1) 34 #[.slice none 0 0]:=by
  rw[<-hW];have:=Blk.new (wr.alloc (.cells #[.slice none 0 0] 34)) 34 #[.slice none 0 0];rw[World.size_alloc,hz]at this;exact(((this.alloc _).alloc _).alloc _).alloc _
 have j:Blk W (z+1+1) 4 (bcells (List.replicate ns.length false)):=by
  rw[<-hW];have:=Blk.new ((wr.alloc (.cells #[.slice none 0 0] 34)).alloc (.cells #[.slice none 0 0] 34)) 4 (bcells (List.replicate ns.length false));simp only[World.size_alloc,hz]at this;exact(((this.alloc _).alloc _).alloc _)
 have m:Blk W (z+1+1+1) 52 #[.slice (some ⟨z+1+1,0,none⟩) ns.length ns.length]:=by
  rw[<-hW];have:=Blk.new (((wr.alloc (.cells #[.slice none 0 0] 34)).alloc (.cells #[.slice none 0 0] 34)).alloc (.cells (bcells (List.replicate ns.length false)) 4)) 52 #[.slice (some ⟨z+1+1,0,none⟩) ns.length ns.length];simp only[World.size_alloc,hz]at this;exact((this.alloc _).alloc _)
 have p:Blk W (z+1+1+1+1) 3 #[.int .i64 0]:=by
  rw[<-hW];have:=Blk.new ((((wr.alloc (.cells #[.slice none 0 0] 34)).alloc (.cells #[.slice none 0 0] 34)).alloc (.cells (bcells (List.replicate ns.length false)) 4)).alloc (.cells #[.slice (some ⟨z+1+1,0,none⟩) ns.length ns.length] 52)) 3 #[.int .i64 0];simp only[World.size_alloc,hz]at this;exact(this.alloc _)
 have d:Blk W (z+1+1+1+1+1) 67 #[(compL z gb b0 b1 b2 r0 r1 r2).fn]:=by
  rw[<-hW];have:=Blk.new (((((wr.alloc (.cells #[.slice none 0 0] 34)).alloc (.cells #[.slice none 0 0] 34)).alloc (.cells (bcells (List.replicate ns.length false)) 4)).alloc (.cells #[.slice (some ⟨z+1+1,0,none⟩) ns.length ns.length] 52)).alloc (.cells #[.int .i64 0] 3)) 67 #[(compL z gb b0 b1 b2 r0 r1 r2).fn];simp only[World.size_alloc,hz]at this;exact this
 refine⟨⟨⟨?_,?_,?_,h01,h02,h12,?_,?_,?_,?_,?_,?_,?_,?_,?_,?_,?_,?_,?_,?_,?_⟩,by omega,hI.below l a,hL.below l i,hC.below l b,m,d,hG.below l hG.lt,hat.below (l.mono (by omega)),p,o,g,hrI.below l n,hrL.below l q,hrC.below l h,j,OwnRow.nil,OwnRow.nil,fun k e=>by cases e⟩,l,f⟩
 all_goals (simp only[compL];omega)
theorem zhl (s:Gr.Str) (a:Nat):(s.drop a).dropWhile Gr.dig=s.drop (a+(rdg s a).length):=by
 have h:=List.takeWhile_append_dropWhile (p:=Gr.dig) (l:=s.drop a);have b:=congrArg (List.drop (rdg s a).length) h;unfold rdg at b ⊢;rw[List.drop_left,List.drop_drop]at b;exact b
theorem zrd (s:Gr.Str) (a:Nat) (h:a<=s.length):a+(rdg s a).length<=s.length:=by
 have:(rdg s a).length<=(s.drop a).length:=(List.takeWhile_sublist Gr.dig).length_le;rw[List.length_drop]at this;omega
theorem zb8 (s:Gr.Str) (k:Nat):(s.drop k).head?=s[k]? :=by rw[List.head?_drop]
theorem zfs (s:Gr.Str) (k:Nat):(s.drop k).tail=s.drop (k+1):=by rw[List.tail_drop]
theorem zln (s:Gr.Str) (a:Nat) (h:0<(rdg s a).length):(rdg s a).head?=s[a]? :=by
 rw[<-zb8];unfold rdg at h ⊢;cases hd:s.drop a with
 |nil=>rw[hd]at h;simp at h
 |cons c l=>
  rw[hd]at h;rw[List.takeWhile_cons]at h ⊢;split
  .rfl
  .grind
theorem zwy (sat:Nat) (neg:Bool) (s:Gr.Str) (a:Nat):numT sat neg (s.drop a)=if rdg s a=[]\/(s[a]? =some 48/\1<(rdg s a).length)then none
 else if s[a+(rdg s a).length]? =some 46 then
  if rdg s (a+(rdg s a).length+1)=[]then none else expS sat neg (vals (rdg s a)++vals (rdg s (a+(rdg s a).length+1))) (-((rdg s (a+(rdg s a).length+1)).length:Int)) (s.drop (a+(rdg s a).length+1+(rdg s (a+(rdg s a).length+1)).length))
 else expS sat neg (vals (rdg s a)) 0 (s.drop (a+(rdg s a).length)):=by
 unfold numT;have d:(s.drop a).takeWhile Gr.dig=rdg s a:=rfl;rw[d,zhl,zb8,zfs,zhl];have c:(s.drop (a+(rdg s a).length+1)).takeWhile Gr.dig=rdg s (a+(rdg s a).length+1):=rfl;rw[c];have b:vals (rdg s a++rdg s (a+(rdg s a).length+1))=vals (rdg s a)++vals (rdg s (a+(rdg s a).length+1)):=by simp[vals]
 rw[b];by_cases h0:rdg s a=[]
 .grind
 .rw[zln s a (List.length_pos_iff.2 h0)]
theorem zwz (sat:Nat) (neg:Bool) (d:List Nat) (e:Int) (s:Gr.Str) (t:Nat) (ht:t<=s.length) (h1:s[t]? ≠some 101) (h2:s[t]? ≠some 69):expS sat neg d e (s.drop t)=if t=s.length then some (norm neg d e)else none:=by
 unfold expS;rw[zb8];by_cases h:t=s.length
 .grind
 .rw[if_neg (by intro e;have:=congrArg List.length e;simp at this;omega),if_neg (fun e=>e.elim h1 h2),if_neg h]
theorem zka (s:Gr.Str) (b:Nat) (hb:b<=s.length):(s.drop b).all Gr.dig=true↔b+(rdg s b).length=s.length:=by
 constructor
 .intro h;have:rdg s b=s.drop b:=by
   unfold rdg;have:=List.takeWhile_append_of_pos (p:=Gr.dig) (l₁:=s.drop b) (l₂:=[]) (by simpa using h);simpa using this
  rw[this,List.length_drop];omega
 .intro h;have a:=List.takeWhile_append_dropWhile (p:=Gr.dig) (l:=s.drop b);rw[zhl,show s.drop (b+(rdg s b).length)=[]from List.drop_eq_nil_of_le (by omega),List.append_nil]at a;rw[<-a];exact zec _
theorem zre (s:Gr.Str) (b:Nat) (h:b+(rdg s b).length=s.length):rdg s b=s.drop b:=by
 have a:=List.takeWhile_append_dropWhile (p:=Gr.dig) (l:=s.drop b);rw[zhl,show s.drop (b+(rdg s b).length)=[]from List.drop_eq_nil_of_le (by omega),List.append_nil]at a;exact a
theorem zw0 (sat:Nat) (neg:Bool) (d:List Nat) (e:Int) (s:Gr.Str) (t b:Nat) (minus:Bool) (ht:t<s.length) (h1:s[t]? =some 101\/s[t]? =some 69) (hb:b=if s[t+1]? =some 45\/s[t+1]? =some 43 then t+2 else t+1) (hm:minus=decide (s[t+1]? =some 45)) (hbl:b<=s.length):
 expS sat neg d e (s.drop t)=if rdg s b=[]then none else if b+(rdg s b).length=s.length then some (norm neg d (e+(if minus=true then -1 else 1)*(satv sat (rdg s b):Int)))else none:=by
 unfold expS;rw[if_neg (by intro e;have:=congrArg List.length e;simp at this;omega),zb8,if_pos h1,zfs];have c:expT (s.drop (t+1))=s.drop b:=by
  unfold expT;rw[zb8,zfs,hb];split<;>rfl
 have f:expV sat (s.drop (t+1))=(if minus=true then -1 else 1)*(satv sat (s.drop b):Int):=by
  unfold expV;rw[c,zb8,hm];by_cases h:s[t+1]? =some 45
  .grind
  .grind
 rw[c,f];by_cases he:rdg s b=[]
 .rw[if_pos he,if_pos];rcases Nat.lt_or_ge b s.length with h|h
  .right;rw[Bool.eq_false_iff];intro a;have:=(zka s b hbl).1 a;rw[he]at this;simp at this;omega
  .grind
 .rw[if_neg he];by_cases a:b+(rdg s b).length=s.length
  .rw[if_pos a,if_neg,zre s b a];rintro(h|h)
   .rw[<-zre s b a]at h;exact he h
   .rw[(zka s b hbl).2 a]at h;cases h
  .rw[if_neg a,if_pos];right;rw[Bool.eq_false_iff];exact fun h=>a ((zka s b hbl).1 h)
def zcg (o:Option Gr.Dn) (w:World) (e:Ending) (w':World):Prop:=∃x v,e=.returned (.tuple #[v,.bool o.isSome])/\NumI x v w.heap.size w'/\(∀y,o=some y->x=y)/\Below w.heap.size w w'
theorem zrf (s:Gr.Str) (_hl:s.length<=268435455) (w wc:World) (gb n c t2:Nat) (A:Option Addr) (neg:Bool) (ev2:Int) (ds:List Nat) (r:Option Gr.Dn) (HGB:Hid (w.heap.size=gb))
 (HT:Hid (n=ds.length/\ds.length<=536870911/\(∀v∈ds,v<10))) (HE2:Hid (t2<=s.length/\-1152921504606846976<=ev2/\ev2<=1152921504606846976/\r=if t2=s.length then some (Gr.norm neg ds ev2)else none)) (HO2:Hid (OwnRow intL wc (gb+1) 3 (.slice A n c) ds)) (HB2:Hid (Blk wc gb 131 #[.bool false,.slice none 0 0,.int .i64 0]/\Below gb w wc))
 {u1 u3 u7 u9 u10 u11 u12 u13 u14 u15 u16 u17 u18 u19 u20 u21 u22 u23 u24 u25 u26 u27 u28 u29 u30 u31 u32 u33 u34 u35 u36 u37 u38 u39 u40 u41 u42 u43 u44 u45 u46 u47 u48 u49 u50 u51 u52 u53 u54 u55 u56 u57 u58 u59 u60 u61 u62 u63 u64 u65 u66 u67 u68 u69 u70 u71 u72 u73 u74 u75 u76 u77 u78 u79 u80 u81 u82 u83 u84 u85 u86 u87 u88 u89 u90 u91 u92 u93 u94 u95 u96 u97 u98 u99 u100 u101 u102 u103 u104 u105 u106 u107 u108 u109 u110 u111 u112 u113 u114 u115 u116 u117 u118 u119 u120 u121 u122 u123 u124 u125 u126 u127 u128 u129 u130 u131 u132 u133 u134 u135 u136 u137 u138 u139 u140 u141 u142 u143 u144 u145 u146 u147 u148 u149 u150 u151 u152 u153 u154:Value}:
 Code.wp prog (tl 10 (f114.body.getD .skip)) (bodyPost prog f114 (zcg r w)) {tmps:=List.toArray (.string ⟨s.toArray⟩::u1::.pointer (some ⟨gb,0,none⟩)::u3::.int .i64 (t2:Int)::.bool neg::.slice A n c::u7::.int .i64 ev2::u9::u10::u11::u12::u13::u14::u15::u16::u17::u18::u19::u20::u21::u22::u23::u24::u25::u26::u27::u28::u29::u30::u31::u32::u33::u34::u35::u36::u37::u38::u39::u40::u41::u42::u43::u44::u45::u46::u47::u48::u49::u50::u51::u52::u53::u54::u55::u56::u57::u58::u59::u60::u61::u62::u63::u64::u65::u66::u67::u68::u69::u70::u71::u72::u73::u74::u75::u76::u77::u78::u79::u80::u81::u82::u83::u84::u85::u86::u87::u88::u89::u90::u91::u92::u93::u94::u95::u96::u97::u98::u99::u100::u101::u102::u103::u104::u105::u106::u107::u108::u109::u110::u111::u112::u113::u114::u115::u116::u117::u118::u119::u120::u121::u122::u123::u124::u125::u126::u127::u128::u129::u130::u131::u132::u133::u134::u135::u136::u137::u138::u139::u140::u141::u142::u143::u144::u145::u146::u147::u148::u149::u150::u151::u152::u153::u154::[]),defers:=[]} wc:=by
 generalize hc0:tl 10 (f114.body.getD .skip)=c0;simp only[tl,f114,Option.getD_some]at hc0;subst hc0;have D:=HO2.out.form;have o:n=ds.length:=HT.out.1;have C:Hid (∀W,Below wc.heap.size wc W->W=wc->Calls prog 147 #[.bool neg,.slice A n c,.int .i64 ev2] W (zfr (Gr.norm neg ds ev2) W)):=Lib.hid (fun W _ J=>by
  subst J;obtain⟨A',c',H,m⟩:=HO2.out.form;rw[o]at H ⊢;injection H with e1 e2 e3
  subst e1;exact zrc neg A c ds ev2 (by have:=HT.out.2.1;omega) HE2.out.2.1 HE2.out.2.2.1 HT.out.2.2 W m)
 have l:=Lib.hid HE2.out.2.2.2;have ht2s:t2<=s.length:=HE2.out.1;obtain⟨b,a⟩:=ex (decide (t2=s.length))
 have hfb:((t2:Int)==(s.length:Int))=b:=by
  rw[<-a,Bool.eq_iff_iff];simp;omega
 have hfb2:(t2==s.length)=b:=by
  rw[<-a,Bool.eq_iff_iff];simp
 have F:=Lib.hid a;clear D o a HT HE2;go_wp2_with fail;refine(C.out wc (Below.refl _ _) rfl).mono ?_;rintro e G ⟨v,rfl,⟨u,t,rfl,q⟩,i⟩;have g:Hid (Blk G gb 131 #[.bool false,.slice none 0 0,.int .i64 0]/\Below gb w G):=Lib.hid ⟨HB2.out.1.below i HB2.out.1.lt,HB2.out.2.trans (i.mono (Nat.le_of_lt HB2.out.1.lt))⟩;have f:=Lib.hid (q.lower (show gb+1<=wc.heap.size from HB2.out.1.lt));have p0:∀j,G.frozen? ⟨gb,j,none⟩=false:=g.out.1.frozen;obtain⟨q0,q1,q2⟩:=cells3 g.out.1;obtain⟨x,I⟩:=ex (Gr.norm neg ds ev2)
 rw[I]at f l ⊢;clear I q i;go_wp2_with fail;have k:=((g.out.1.set_ 0 (.bool x.neg)).set_ 1 (.slice u x.d.length t)).set_ 2 (.int .i64 x.e);have e0:=k.cell 0;have e1:=k.cell 1;have e2:=k.cell 2;refine bodyPost_ret (v:=.tuple #[.agg #[.bool x.neg,.slice u x.d.length t,.int .i64 x.e],.bool b]) (by rw[results_cell_tmp rfl];go_simp) rfl ?_;have E:r.isSome=b:=by
  rw[l.out,<-F.out];by_cases h:t2=s.length
  .rw[if_pos h];simp[h]
  .rw[if_neg h];simp[h]
 unfold zcg;rw[HGB.out,E];have B:=((f.out.setCell (p:=⟨gb,0,none⟩) (fun e=>absurd (f.out.lt _ e).1 (by simp)) (.bool x.neg)).setCell (p:=⟨gb,1,none⟩) (fun e=>absurd (f.out.lt _ e).1 (by simp)) (.slice u x.d.length t)).setCell (p:=⟨gb,2,none⟩) (fun e=>absurd (f.out.lt _ e).1 (by simp)) (.int .i64 x.e);refine⟨x,_,rfl,⟨u,t,rfl,B.lower (by omega)⟩,fun y z=>?_,((g.out.2.setCell (p:=⟨gb,0,none⟩) (by simp) _).setCell (p:=⟨gb,1,none⟩) (by simp) _).setCell (p:=⟨gb,2,none⟩) (by simp) _⟩;rw[l.out]at z;split at z
 .injection z
 .cases z
end Go.Proofs.YtpjmhafmeieloaaGreatDoor

import Derived.Test.YtoigpackhninoaaGreatDoorGrVisitT
import Derived.Test.YtoigpackhninoaaGreatDoorZ10
namespace Go.Proofs.YtoigpackhninoaaGreatDoor
open Gr
open _root_.Go.Proofs.Tryz
open Lib (hid)
set_option maxRecDepth 100000
set_option maxHeartbeats 16000000
open Go.RowKit
section
variable {y:TL} {B D:Nat} {A:Option Addr} {c:Nat} {root:Int} {vs:List NV} {ns:List Gr.Nd}
theorem zmc (hr:Refs ns) (hl:ns.length<=1073741823) (hks:∀n∈ns,n.keys.length<=1073741823/\n.items.length<=1073741823):
 ∀(f:Nat) (s:Gr.TS) (v:Nat) (G:Nat->Prop) (w:World) (sv zv:Value),TAt y B D A c root vs ns w s sv zv->Gr.Inv (Gr.succ ns) ns.length G s->v<ns.length->s.ix v=0->(∀g,G g->Gr.Reach (Gr.succ ns) g v)->unv ns.length s<=f->
 Calls prog 85 (y.args (.int .i64 v)) w (TPost y B D A c root vs ns w sv zv (tvisit (Gr.succ ns) f s v)):=by
 intro f
 induction f with
 |zero=>
  intro s v G w sv zv h hI hv hv0 hg hu;have:=zei hI hv hv0;omega
 |succ f ih=>
  intro s v G w sv zv h hI hv hv0 hg hu;have hvI:(v:Int)<(ns.length:Int):=by omega
  have hnx:s.next<=1073741823:=by have:=hI.bn;omega
  have hsl:s.stk.length<=1073741823:=by have:=hI.bz;omega
  have IH:=hid ih;have HGU:Hid ((∀g,G g->Gr.Reach (Gr.succ ns) g v)/\unv ns.length s<=f+1):=hid ⟨hg,hu⟩;have HI:=hid hI;have HOK:=hid h.ok;have h1:=h.alloc (.cells #[.int .i64 v] 3);have hA1:ABox y D (w.alloc (.cells #[.int .i64 v] 3)) sv zv w.heap.size v:=⟨Blk.new _ _ _,h.hd,fun e=>by have:=(h.stk.lt _ e).2;omega,fun e=>by have:=(h.siz.lt _ e).2;omega⟩
  have hF1:TF y sv zv w (w.alloc (.cells #[.int .i64 v] 3)) sv zv:=(TF.refl _ _ _ _).alloc _;have H:=hid h;clear ih hI hg hu h;unfold TL.args;go_enter func85,ntmps85;obtain⟨w1,hw1⟩:=ex (w.alloc (.cells #[.int .i64 v] 3))
  rw[hw1]at h1 hA1 hF1;obtain⟨bA,hbA⟩:=ex w.heap.size
  have n0:w1.cell? ⟨y.bN,0,none⟩=some (.int .i64 (s.next:Int)):=h1.bN.cell 0;have nf:∀i,w1.frozen? ⟨y.bN,i,none⟩=false:=h1.bN.frozen;have hw:IntKind.i64.wrap ((s.next:Int)+1)=(s.next:Int)+1:=IntWalk.i64_in _ (by omega);go_upto_region 1 with fail;(try rw[hw1]);rw[hbA]at hA1;(try rw[hbA]);clear hw1 hbA;go_upto_region 2 with fail;obtain⟨w2,hw2⟩:=ex (w1.setCell ⟨y.bN,0,none⟩ (.int .i64 ((s.next:Int)+1)))
  have f12:TF y sv zv w1 w2 sv zv:=by rw[<-hw2];exact(TF.refl _ _ _ _).set y.bN 0 (.inl rfl) _
  have h2:TAt y B D A c root vs ns w2 {s with next:=s.next+1} sv zv:=by rw[<-hw2];exact h1.setN (s.next+1)
  have hA2:=hA1.kept HOK.out f12;have HF2:=hid (hF1.trans f12);rw[hw2];have i0:w2.cell? ⟨y.bI,0,none⟩=some (.slice (some ⟨y.rI,0,none⟩) ns.length ns.length):=h2.xI.cell 0;have l0:w2.cell? ⟨y.bL,0,none⟩=some (.slice (some ⟨y.rL,0,none⟩) ns.length ns.length):=h2.xL.cell 0;have a0:w2.cell? ⟨bA,0,none⟩=some (.int .i64 (v:Int)):=hA2.b.cell 0;have n1:w2.cell? ⟨y.bN,0,none⟩=some (.int .i64 ((s.next:Int)+1)):=h2.bN.cell 0;have rf:∀i,w2.frozen? ⟨y.rI,i,none⟩=false:=h2.rI.frozen;have lf:∀i,w2.frozen? ⟨y.rL,i,none⟩=false:=h2.rL.frozen;have xv:w2.cell? ⟨y.rI,v,none⟩=some (.int .i64 0):=by
   rw[h2.rI.cell,zad (by show v<s.idx.length;rw[HI.out.li];exact hv)];show some (Value.int .i64 ((s.ix v:Nat):Int))=_;rw[hv0];rfl
  have yv:w2.cell? ⟨y.rL,v,none⟩=some (.int .i64 ((s.lw v:Nat):Int)):=by
   rw[h2.rL.cell,zad (by show v<s.low.length;rw[HI.out.ll];exact hv)];rfl
  have q1:y.bN≠y.rI:=HOK.out.nI;have q2:y.bN≠y.rL:=HOK.out.nL;have q3:y.rI≠y.rL:=HOK.out.iL;have q4:y.rL≠y.rI:=HOK.out.iL.symm;have q5:y.bL≠y.rI:=h2.xL.ne_ h2.rI (by decide);have q6:y.bL≠y.rL:=h2.xL.ne_ h2.rL (by decide);have q7:y.bI≠y.rI:=h2.xI.ne_ h2.rI (by decide);have q8:y.bI≠y.rL:=h2.xI.ne_ h2.rL (by decide);have q9:bA≠y.rI:=by have:=hA2.hi;have:=HOK.out.dI;omega
  have q10:bA≠y.rL:=by have:=hA2.hi;have:=HOK.out.dL;omega
  have H2:=hid h2;have HA2:=hid hA2;clear h1 hA1 hF1 n0 nf hw hw2 f12 h2 hA2;go_cut [24] (fun _ wx=>TAt y B D A c root vs ns wx {s with next:=s.next+1,idx:=s.idx.set v (s.next+1),low:=s.low.set v (s.next+1)} sv zv/\TF y sv zv w wx sv zv/\ABox y D wx sv zv bA v)
  case first=>
   go_region
   all_goals
    go_wp2;go_meet;exact⟨((H2.out.setI v (s.next+1)).setL v (s.next+1)).drew,((HF2.out.set y.rI v (by simp) _).set y.rL v (by simp) _).drew,
     HA2.out.kept HOK.out (((TF.refl _ _ _ _).set y.rI v (by simp) _).set y.rL v (by simp) _).drew⟩
  case rest=>
   obtain⟨hT,hF,hA⟩:=hcut;clear i0 l0 a0 n1 rf lf xv yv q1 q2 q3 q4 q5 q6 q7 q8 q9 q10 H2 HA2 HF2;obtain⟨As,cs,hsv,_⟩:=hT.stk.form;have s0:wc.cell? ⟨y.bS,0,none⟩=some (.slice As s.stk.length cs):=by rw[hT.bS.cell 0];show some sv=_;rw[hsv]
   have a0:wc.cell? ⟨bA,0,none⟩=some (.int .i64 (v:Int)):=hA.b.cell 0;have e0:=World.new_ne wc _ s0;have HO:Hid (OwnRow intL wc D 3 (.slice As s.stk.length cs) s.stk):=hid (by have:=hT.stk;rw[hsv]at this;exact this);have HSV:=hid hsv;have HT:=hid hT;have HF:=hid hF;have HA:=hid hA;have hDw:=hT.hd;clear hsv hT hF hA;go_upto_region 3 with fail;go_cut [28] (fun _ wx=>∃sv2,TAt y B D A c root vs ns wx {s with next:=s.next+1,idx:=s.idx.set v (s.next+1),low:=s.low.set v (s.next+1),stk:=s.stk++[v]} sv2 zv/\TF y sv zv w wx sv2 zv/\ABox y D wx sv2 zv bA v)
   case first=>
    go_wp2_with (at_builtin;go_must (refine zac _ rfl (.tmp 28) (.tmp 30) 33 3 8 rfl intT D (.slice As s.stk.length cs) s.stk rfl (HO.out.alloc _) _ _ 1 [v] rfl (RowAt.lit1 _ _ rfl _ ?_) ?_ ?_ ?_))
    any_goals (first|rfl|omega| (simp;omega)| (rw[World.size_alloc];omega))
    intro v' w3 hown hg hat;have hTa:=HT.out.alloc (.cells #[.int .i64 v] 3);rw[<-HSV.out]at hg hat;have hb3:Blk w3 y.bS 33 _:=hTa.bS.grown hg (fun e=>zbx hTa.stk hTa.bS (by decide) e.symm);have pc3:w3.cell? ⟨y.bS,0,none⟩=some sv:=hb3.cell 0;have pf3:∀i,w3.frozen? ⟨y.bS,i,none⟩=false:=hb3.frozen;obtain⟨g3,cap3,hv3,_⟩:=hown.shape (by simp);obtain⟨n3,hn3⟩:=ex ((s.stk++[v]).length)
    rw[hn3]at hv3;subst hv3;have HTA:=hid hTa;have HOW:=hid hown;have HG:=hid hg;have HAT:=hid hat;clear hTa hown hg hat hb3 hn3;go_wp2;go_meet;have f1:=(TF.refl y sv zv wc).alloc (.cells #[.int .i64 v] 3);have hat2:(Value.slice (some ⟨g3,0,none⟩) n3 cap3).ownBlock=sv.ownBlock\/(Value.slice (some ⟨g3,0,none⟩) n3 cap3).ownBlock=some (wc.alloc (.cells #[.int .i64 v] 3)).heap.size:=by rw[World.size_alloc];exact HAT.out
    have f2:=f1.trans (TF.grownS HTA.out HG.out hat2);exact⟨_,HTA.out.grownS HOW.out HG.out hat2,HF.out.trans f2,HA.out.kept HOK.out f2⟩
   case rest=>
    obtain⟨sv1,hT,hF,hA⟩:=hcut;rename_i hK0;apply hK0;exact zmb hr hl hks HI.out hv hv0 HGU.out.1 HGU.out.2 IH.out w _ sv zv sv1 bA hT hF hA
end
def compL (z gb b0 b1 b2 r0 r1 r2:Nat):TL:=⟨z+1+1+1+1,b0,b1,z+1,z+1+1+1,z+1+1+1+1+1,gb,z,b2,r0,r1,r2,z+1+1⟩
theorem zmd (B z gb b0 b1 b2 r0 r1 r2:Nat) (A:Option Addr) (c:Nat) (root:Int) (vs:List NV) (ns:List Gr.Nd) (wr W:World) (hz:wr.heap.size=z)
 (hW:((((((wr.alloc (.cells #[.slice none 0 0] 33)).alloc (.cells #[.slice none 0 0] 33)).alloc (.cells (bcells (List.replicate ns.length false)) 4)).alloc (.cells #[.slice (some ⟨z+1+1,0,none⟩) ns.length ns.length] 62)).alloc (.cells #[.int .i64 0] 3)).alloc (.cells #[(compL z gb b0 b1 b2 r0 r1 r2).fn] 88))=W)
 (hI:Blk wr b0 33 #[.slice (some ⟨r0,0,none⟩) ns.length ns.length]) (hL:Blk wr b1 33 #[.slice (some ⟨r1,0,none⟩) ns.length ns.length]) (hC:Blk wr b2 33 #[.slice (some ⟨r2,0,none⟩) ns.length ns.length])
 (hrI:Blk wr r0 3 (icells (List.replicate ns.length 0))) (hrL:Blk wr r1 3 (icells (List.replicate ns.length 0))) (hrC:Blk wr r2 3 (jcells (List.replicate ns.length (-1))))
 (hG:Blk wr gb 24 #[.slice A ns.length c,.int .i64 root]) (h01:r0≠r1) (h02:r0≠r2) (h12:r1≠r2) (hB:B<=z) (hB0:B<=r0) (hB1:B<=r1) (hB2:B<=r2) (hat:GAt wr B A vs ns):
 TAt (compL z gb b0 b1 b2 r0 r1 r2) B (z+1+1+1+1+1+1) A c root vs ns W (Gr.tzero ns.length) (.slice none 0 0) (.slice none 0 0)/\Below wr.heap.size wr W/\W.heap.size=z+1+1+1+1+1+1:=by
 have l:Below wr.heap.size wr W:=by rw[<-hW];exact((((((Below.refl _ _).alloc (Nat.le_refl _) _).alloc (by simp) _).alloc (by simp;omega) _).alloc (by simp;omega) _).alloc (by simp;omega) _).alloc (by simp;omega) _
 have hs:W.heap.size=z+1+1+1+1+1+1:=by rw[<-hW];simp[hz]
 have k1:=hI.lt;have k2:=hL.lt;have k3:=hC.lt;have k4:=hrI.lt;have k5:=hrL.lt;have k6:=hrC.lt;have n0:Blk W z 33 #[.slice none 0 0]:=by rw[<-hW,<-hz];exact(((((Blk.new _ _ _).alloc _).alloc _).alloc _).alloc _).alloc _
 have n1:Blk W (z+1) 33 #[.slice none 0 0]:=by
  rw[<-hW];have:=Blk.new (wr.alloc (.cells #[.slice none 0 0] 33)) 33 #[.slice none 0 0];rw[World.size_alloc,hz]at this;exact(((this.alloc _).alloc _).alloc _).alloc _
 have n2:Blk W (z+1+1) 4 (bcells (List.replicate ns.length false)):=by
  rw[<-hW];have:=Blk.new ((wr.alloc (.cells #[.slice none 0 0] 33)).alloc (.cells #[.slice none 0 0] 33)) 4 (bcells (List.replicate ns.length false));simp only[World.size_alloc,hz]at this;exact(((this.alloc _).alloc _).alloc _)
 have n3:Blk W (z+1+1+1) 62 #[.slice (some ⟨z+1+1,0,none⟩) ns.length ns.length]:=by
  rw[<-hW];have:=Blk.new (((wr.alloc (.cells #[.slice none 0 0] 33)).alloc (.cells #[.slice none 0 0] 33)).alloc (.cells (bcells (List.replicate ns.length false)) 4)) 62 #[.slice (some ⟨z+1+1,0,none⟩) ns.length ns.length];simp only[World.size_alloc,hz]at this;exact((this.alloc _).alloc _)
 have n4:Blk W (z+1+1+1+1) 3 #[.int .i64 0]:=by
  rw[<-hW];have:=Blk.new ((((wr.alloc (.cells #[.slice none 0 0] 33)).alloc (.cells #[.slice none 0 0] 33)).alloc (.cells (bcells (List.replicate ns.length false)) 4)).alloc (.cells #[.slice (some ⟨z+1+1,0,none⟩) ns.length ns.length] 62)) 3 #[.int .i64 0];simp only[World.size_alloc,hz]at this;exact(this.alloc _)
 have n5:Blk W (z+1+1+1+1+1) 88 #[(compL z gb b0 b1 b2 r0 r1 r2).fn]:=by
  rw[<-hW];have:=Blk.new (((((wr.alloc (.cells #[.slice none 0 0] 33)).alloc (.cells #[.slice none 0 0] 33)).alloc (.cells (bcells (List.replicate ns.length false)) 4)).alloc (.cells #[.slice (some ⟨z+1+1,0,none⟩) ns.length ns.length] 62)).alloc (.cells #[.int .i64 0] 3)) 88 #[(compL z gb b0 b1 b2 r0 r1 r2).fn];simp only[World.size_alloc,hz]at this;exact this
 refine⟨⟨⟨?_,?_,?_,h01,h02,h12,?_,?_,?_,?_,?_,?_,?_,?_,?_,?_,?_,?_,?_,?_,?_⟩,by omega,hI.below l k1,hL.below l k2,hC.below l k3,n3,n5,hG.below l hG.lt,hat.below (l.mono (by omega)),n4,n1,n0,hrI.below l k4,hrL.below l k5,hrC.below l k6,n2,OwnRow.nil,OwnRow.nil,fun k e=>by cases e⟩,l,hs⟩
 all_goals (simp only[compL];omega)
section
variable {P:Program} {md:Region.Mode} {ops:Array Oper} {Q:Exit->Act->World->Prop}
theorem zme (Inv:Nat->Array Bool->Act->World->Prop)
 (hstep:∀m listed a w i,Inv m listed a w->i∈Region.ready md ops listed->∃m',m=m'+1/\wpOp P ops Q i (fun a' w'=>Inv m' (listed.setIfInBounds i true) a' w') a w)
 (hend:∀m listed a w,Inv m listed a w->Region.ready md ops listed=[]->Q .normal a w):
 ∀fuel listed a w,Inv fuel listed a w->wpAny P md ops Q fuel listed a w:=by
 intro fuel
 induction fuel with
 |zero=>
  intro listed a w h;have hr:Region.ready md ops listed=[]:=List.eq_nil_iff_forall_not_mem.2 (fun i hi=>by obtain⟨m',hm,_⟩:=hstep _ _ _ _ i h hi;omega);exact⟨hr,hend _ _ _ _ h hr⟩
 |succ fuel ih=>
  intro listed a w h;refine⟨fun hr=>hend _ _ _ _ h hr,fun i hi=>?_⟩;obtain⟨m',hm,hw⟩:=hstep _ _ _ _ i h hi;obtain rfl:m'=fuel:=by omega
  exact wpOp_mono (fun a w h=>ih _ _ _ h) hw
variable {i:Nat} {o:Oper} {K:Act->World->Prop} {a:Act} {w w':World}
theorem zbm (v:Value) (ho:ops[i]? =some o) (hg:o.guard=none) (hrun:(execOp a.eval o).run P w=.ok (.value v) w') (hK:K (a.put o.dst v) w'):wpOp P ops Q i K a w:=by
 unfold wpOp;rw[ho];simp only[Region.wanted,hg,if_true];left;unfold Oper.wp;rw[hrun];exact hK
theorem zjj (ho:ops[i]? =some o) (hg:o.guard=none) (hrun:(execOp a.eval o).run P w=.ok .skip w') (hK:K (a.put o.dst undef) w'):wpOp P ops Q i K a w:=by
 unfold wpOp;rw[ho];simp only[Region.wanted,hg,if_true];left;unfold Oper.wp;rw[hrun];exact hK
end
structure Mk3 (n:Nat) (w1 W:World) (f:Nat->Bool) (r b:Nat->Nat):Prop where
 below:Below w1.heap.size w1 W
 row:∀j,j<3->f (2*j+1)=true->w1.heap.size<=r j/\Blk W (r j) 3 (icells (List.replicate n 0))
 box:∀j,j<3->f (6+j)=true->w1.heap.size<=b j/\Blk W (b j) 33 #[if f (9+j)then .slice (some ⟨r j,0,none⟩) n n else .slice none 0 0]
 rr:∀j k,j<3->k<3->j≠k->f (2*j+1)=true->f (2*k+1)=true->r j≠r k
 bb:∀j k,j<3->k<3->j≠k->f (6+j)=true->f (6+k)=true->b j≠b k
def upd {α:Type} (f:Nat->α) (i:Nat) (x:α):Nat->α:=fun k=>if k=i then x else f k
theorem Mk3.start (n:Nat) (w1:World) (r b:Nat->Nat):Mk3 n w1 w1.drew (fun _=>false) r b:=
 ⟨below_drewN (Below.refl _ _) 1,fun _ _ h=>by(cases h),fun _ _ h=>by(cases h),fun _ _ _ _ _ h=>by(cases h),fun _ _ _ _ _ h=>by(cases h)⟩
variable {n:Nat} {w1 W:World} {f:Nat->Bool} {r b:Nat->Nat}
theorem Mk3.mark (h:Mk3 n w1 W f r b) (i:Nat) (hi:i=0\/i=2\/i=4):Mk3 n w1 W (upd f i true) r b:=by
 have e:∀k,k≠i->upd f i true k=f k:=fun k hk=>by unfold upd;rw[if_neg hk]
 refine⟨h.below,fun j hj=>?_,fun j hj=>?_,fun j k hj hk=>?_,fun j k hj hk=>?_⟩
 ·rw[e _ (by omega)];exact h.row j hj
 ·rw[e _ (by omega),e _ (by omega)];exact h.box j hj
 ·rw[e _ (by omega),e _ (by omega)];exact h.rr j k hj hk
 ·rw[e _ (by omega),e _ (by omega)];exact h.bb j k hj hk
theorem Mk3.make (h:Mk3 n w1 W f r b) (j0:Nat) (hj0:j0<3) (hs:f (9+j0)=false):Mk3 n w1 (W.alloc (.cells (icells (List.replicate n 0)) 3)) (upd f (2*j0+1) true) (upd r j0 W.heap.size) b:=by
 have e:∀k,k≠2*j0+1->upd f (2*j0+1) true k=f k:=fun k hk=>by unfold upd;rw[if_neg hk]
 have er:∀k,k≠j0->upd r j0 W.heap.size k=r k:=fun k hk=>by unfold upd;rw[if_neg hk]
 have er0:upd r j0 W.heap.size j0=W.heap.size:=by unfold upd;rw[if_pos rfl]
 have hws:=h.below.size;refine⟨h.below.alloc hws _,fun j hj hf=>?_,fun j hj=>?_,fun j k hj hk hne hf hg=>?_,fun j k hj hk=>?_⟩
 ·by_cases hjj:j=j0
  ·subst hjj;rw[er0];exact⟨hws,Blk.new _ _ _⟩
  ·rw[e _ (by omega)]at hf;rw[er _ hjj];obtain⟨h1,h2⟩:=h.row j hj hf;exact⟨h1,h2.alloc _⟩
 ·rw[e _ (by omega),e _ (by omega)];intro hf;obtain⟨h1,h2⟩:=h.box j hj hf;refine⟨h1,?_⟩;by_cases hjj:j=j0
  ·subst hjj;rw[hs]at h2 ⊢;exact h2.alloc _
  ·rw[er _ hjj];exact h2.alloc _
 ·by_cases hjj:j=j0
  ·subst hjj;rw[er0,er k (by omega)];rw[e _ (by omega)]at hg;have:=(h.row k hk hg).2.lt;omega
  ·rw[e _ (by omega)]at hf;rw[er j hjj];by_cases hkk:k=j0
   ·subst hkk;rw[er0];have:=(h.row j hj hf).2.lt;omega
   ·rw[e _ (by omega)]at hg;rw[er k hkk];exact h.rr j k hj hk hne hf hg
 ·rw[e _ (by omega),e _ (by omega)];exact h.bb j k hj hk
theorem Mk3.boxed (h:Mk3 n w1 W f r b) (j0:Nat) (hj0:j0<3) (hs:f (9+j0)=false):Mk3 n w1 (W.alloc (.cells #[.slice none 0 0] 33)) (upd f (6+j0) true) r (upd b j0 W.heap.size):=by
 have e:∀k,k≠6+j0->upd f (6+j0) true k=f k:=fun k hk=>by unfold upd;rw[if_neg hk]
 have er:∀k,k≠j0->upd b j0 W.heap.size k=b k:=fun k hk=>by unfold upd;rw[if_neg hk]
 have er0:upd b j0 W.heap.size j0=W.heap.size:=by unfold upd;rw[if_pos rfl]
 have hws:=h.below.size;refine⟨h.below.alloc hws _,fun j hj=>?_,fun j hj hf=>?_,fun j k hj hk=>?_,fun j k hj hk hne hf hg=>?_⟩
 ·rw[e _ (by omega)];intro hf;obtain⟨h1,h2⟩:=h.row j hj hf;exact⟨h1,h2.alloc _⟩
 ·rw[e (9+j) (by omega)];by_cases hjj:j=j0
  ·subst hjj;rw[er0,hs];exact⟨hws,Blk.new _ _ _⟩
  ·rw[e _ (by omega)]at hf;rw[er _ hjj];obtain⟨h1,h2⟩:=h.box j hj hf;exact⟨h1,h2.alloc _⟩
 ·rw[e _ (by omega),e _ (by omega)];exact h.rr j k hj hk
 ·by_cases hjj:j=j0
  ·subst hjj;rw[er0,er k (by omega)];rw[e _ (by omega)]at hg;have:=(h.box k hk hg).2.lt;omega
  ·rw[e _ (by omega)]at hf;rw[er j hjj];by_cases hkk:k=j0
   ·subst hkk;rw[er0];have:=(h.box j hj hf).2.lt;omega
   ·rw[e _ (by omega)]at hg;rw[er k hkk];exact h.bb j k hj hk hne hf hg
theorem Mk3.fill (h:Mk3 n w1 W f r b) (j0:Nat) (hj0:j0<3) (hb:f (6+j0)=true):Mk3 n w1 (W.setCell ⟨b j0,0,none⟩ (.slice (some ⟨r j0,0,none⟩) n n)) (upd f (9+j0) true) r b:=by
 have e:∀k,k≠9+j0->upd f (9+j0) true k=f k:=fun k hk=>by unfold upd;rw[if_neg hk]
 have e0:upd f (9+j0) true (9+j0)=true:=by unfold upd;rw[if_pos rfl]
 obtain⟨h1,h2⟩:=h.box j0 hj0 hb;refine⟨h.below.setCell (p:=⟨b j0,0,none⟩) h1 _,fun j hj=>?_,fun j hj hf=>?_,fun j k hj hk=>?_,fun j k hj hk=>?_⟩
 ·rw[e _ (by omega)];intro hf;obtain⟨h3,h4⟩:=h.row j hj hf;exact⟨h3,h4.far (h4.ne_ h2 (by decide)) _⟩
 ·rw[e (6+j) (by omega)]at hf;obtain⟨h3,h4⟩:=h.box j hj hf;refine⟨h3,?_⟩;by_cases hjj:j=j0
  ·subst hjj;rw[e0,if_pos rfl];exact h2.set_ 0 _
  ·rw[e (9+j) (by omega)];exact h4.far (h.bb j j0 hj hj0 hjj hf hb) _
 ·rw[e _ (by omega),e _ (by omega)];exact h.rr j k hj hk
 ·rw[e _ (by omega),e _ (by omega)];exact h.bb j k hj hk
def left12 (f:Nat->Bool):Nat:=cond (f 0) 0 1+cond (f 1) 0 1+cond (f 2) 0 1+cond (f 3) 0 1+cond (f 4) 0 1+cond (f 5) 0 1+cond (f 6) 0 1+cond (f 7) 0 1+cond (f 8) 0 1+cond (f 9) 0 1+cond (f 10) 0 1+cond (f 11) 0 1
theorem zao (f:Nat->Bool) (i:Nat) (hi:i<12) (h:f i=false):left12 f=left12 (upd f i true)+1:=by
 unfold left12 upd;obtain rfl|rfl|rfl|rfl|rfl|rfl|rfl|rfl|rfl|rfl|rfl|rfl:i=0\/i=1\/i=2\/i=3\/i=4\/i=5\/i=6\/i=7\/i=8\/i=9\/i=10\/i=11:=by omega
 all_goals
  simp only[h,if_true,cond_true,cond_false];simp
  try omega
theorem zfu (A:Option Addr) (c root:Nat) (vs:List NV) (ns:List Gr.Nd) (hr:Refs ns) (hl:ns.length<=1073741823) (hks:∀n∈ns,n.keys.length<=1073741823/\n.items.length<=1073741823) (hroot:root<ns.length)
 (w:World) (h:GAt w w.heap.size A vs ns):
 Calls prog 65 #[.agg #[.slice A ns.length c,.int .i64 root]] w fun e w'=>∃rC Az cz,e=.returned (.tuple #[.slice (some ⟨rC,0,none⟩) ns.length ns.length,.slice Az (tcomp (Gr.succ ns) ns.length root).sizes.length cz])/\w.heap.size<=rC/\Below w.heap.size w w'/\
  Blk w' rC 3 (jcells (tcomp (Gr.succ ns) ns.length root).inn)/\OwnRow intL w' w.heap.size 3 (.slice Az (tcomp (Gr.succ ns) ns.length root).sizes.length cz) (tcomp (Gr.succ ns) ns.length root).sizes:=by
 have H:=hid h;have hmk:=fun W=>zb0 ns.length (by omega) W
 have hmb:=fun W=>zb1 ns.length (by omega) W
 have hrI:(root:Int)<(ns.length:Int):=by omega
 clear h;go_enter func65,ntmps65;go_upto_region 2 with fail;obtain⟨w1,hw1⟩:=ex (w.alloc (.cells #[.slice A ns.length c,.int .i64 root] 24))
 (try rw[hw1]);have HW1:=hid hw1;obtain⟨gb,hgb⟩:=ex w.heap.size
 (try rw[hgb]);have HGB:=hid hgb;clear hw1 hgb;go_cut [5,6,7] (fun s5 s6 s7 wx=>∃r b:Nat->Nat,s5=.pointer (some ⟨b 0,0,none⟩)/\s6=.pointer (some ⟨b 1,0,none⟩)/\s7=.pointer (some ⟨b 2,0,none⟩)/\Hid (Mk3 ns.length w1 wx (fun _=>true) r b))
 case first=>
  refine wp_region_any (by kernel_rfl) ?_;refine zme (fun m listed a' w'=>∃(f:Nat->Bool) (r b:Nat->Nat) (x17 x18 x19 x20 x21 x22 p5 p6 p7:Value),listed=#[f 0,f 1,f 2,f 3,f 4,f 5,f 6,f 7,f 8,f 9,f 10,f 11]/\m=left12 f/\Hid (Mk3 ns.length w1 w' f r b)/\(f 0=true->x17=.int .i64 ns.length)/\(f 1=true->x18=.slice (some ⟨r 0,0,none⟩) ns.length ns.length)/\(f 6=true->p5=.pointer (some ⟨b 0,0,none⟩))/\(f 9=true->f 1=true/\f 6=true)/\(f 2=true->x19=.int .i64 ns.length)/\(f 3=true->x20=.slice (some ⟨r 1,0,none⟩) ns.length ns.length)/\(f 7=true->p6=.pointer (some ⟨b 1,0,none⟩))/\(f 10=true->f 3=true/\f 7=true)/\(f 4=true->x21=.int .i64 ns.length)/\(f 5=true->x22=.slice (some ⟨r 2,0,none⟩) ns.length ns.length)/\(f 8=true->p7=.pointer (some ⟨b 2,0,none⟩))/\(f 11=true->f 5=true/\f 8=true)/\a'={tmps:=List.toArray (.agg #[.slice A ns.length c,.int .i64 root]::.pointer (some ⟨gb,0,none⟩)::.slice none 0 0::.slice none 0 0::.int .i64 ns.length::p5::p6::p7::undef::undef::undef::undef::undef::undef::.pointer (some ⟨gb,0,none⟩)::.slice A ns.length c::.int .i64 ns.length::x17::x18::x19::x20::x21::x22::undef::undef::undef::undef::undef::undef::undef::undef::undef::undef::undef::undef::undef::undef::undef::undef::undef::undef::[]),defers:=[]}) ?step ?fin _ _ _ _ ?start
  case start=>
   exact⟨fun _=>false,fun _=>0,fun _=>0,undef,undef,undef,undef,undef,undef,undef,undef,undef,rfl,rfl,hid (Mk3.start _ _ _ _),fun h=>(by cases h),fun h=>(by cases h),fun h=>(by cases h),fun h=>(by cases h),fun h=>(by cases h),fun h=>(by cases h),fun h=>(by cases h),fun h=>(by cases h),fun h=>(by cases h),fun h=>(by cases h),fun h=>(by cases h),fun h=>(by cases h),rfl⟩
  case step=>
   rintro m listed a' w' i ⟨f,r,b,x17,x18,x19,x20,x21,x22,p5,p6,p7,rfl,rfl,HM,m0,k0,q0,s0,m1,k1,q1,s1,m2,k2,q2,s2,rfl⟩ hi;rw[mem_ready]at hi;obtain⟨hi0,o,ho,hd⟩:=hi;have hi12:i<12:=(Array.getElem?_eq_some_iff.1 ho).1;obtain rfl|rfl|rfl|rfl|rfl|rfl|rfl|rfl|rfl|rfl|rfl|rfl:i=0\/i=1\/i=2\/i=3\/i=4\/i=5\/i=6\/i=7\/i=8\/i=9\/i=10\/i=11:=by omega
   ·have e0:f 0=false:=by simpa using hi0
    obtain rfl:=Option.some.inj (show some _=some o from ho);exact⟨left12 (upd f 0 true),zao f 0 (by omega) e0,zbm (.int .i64 ns.length) rfl rfl (by simp[execOp,go_sem]) ⟨upd f 0 true,r,b,.int .i64 ns.length,x18,x19,x20,x21,x22,p5,p6,p7,rfl,rfl,hid (HM.out.mark 0 (by omega)),fun _=>rfl,k0,q0,s0,m1,k1,q1,s1,m2,k2,q2,s2,rfl⟩⟩
   ·have e0:f 1=false:=by simpa using hi0
    obtain rfl:=Option.some.inj (show some _=some o from ho);have d0:f 0=true:=by simpa using hd ⟨0,.data⟩ (by simp) rfl
    have hx:=m0 d0;subst hx;have hs:f 9=false:=by cases hq:f 9 with|false=>rfl|true=>rw[(s0 hq).1]at e0;cases e0
    exact⟨left12 (upd f 1 true),zao f 1 (by omega) e0,zbm (.slice (some ⟨w'.heap.size,0,none⟩) ns.length ns.length) rfl rfl (by simp[execOp,go_sem,hmk]) ⟨upd f 1 true,upd r 0 w'.heap.size,b,.int .i64 ns.length,(.slice (some ⟨w'.heap.size,0,none⟩) ns.length ns.length),x19,x20,x21,x22,p5,p6,p7,rfl,rfl,hid (HM.out.make 0 (by omega) hs),m0,fun _=>rfl,q0,fun h=>⟨rfl,(s0 h).2⟩,m1,k1,q1,s1,m2,k2,q2,s2,rfl⟩⟩
   ·have e0:f 2=false:=by simpa using hi0
    obtain rfl:=Option.some.inj (show some _=some o from ho);exact⟨left12 (upd f 2 true),zao f 2 (by omega) e0,zbm (.int .i64 ns.length) rfl rfl (by simp[execOp,go_sem]) ⟨upd f 2 true,r,b,x17,x18,.int .i64 ns.length,x20,x21,x22,p5,p6,p7,rfl,rfl,hid (HM.out.mark 2 (by omega)),m0,k0,q0,s0,fun _=>rfl,k1,q1,s1,m2,k2,q2,s2,rfl⟩⟩
   ·have e0:f 3=false:=by simpa using hi0
    obtain rfl:=Option.some.inj (show some _=some o from ho);have d0:f 2=true:=by simpa using hd ⟨2,.data⟩ (by simp) rfl
    have hx:=m1 d0;subst hx;have hs:f 10=false:=by cases hq:f 10 with|false=>rfl|true=>rw[(s1 hq).1]at e0;cases e0
    exact⟨left12 (upd f 3 true),zao f 3 (by omega) e0,zbm (.slice (some ⟨w'.heap.size,0,none⟩) ns.length ns.length) rfl rfl (by simp[execOp,go_sem,hmk]) ⟨upd f 3 true,upd r 1 w'.heap.size,b,x17,x18,.int .i64 ns.length,(.slice (some ⟨w'.heap.size,0,none⟩) ns.length ns.length),x21,x22,p5,p6,p7,rfl,rfl,hid (HM.out.make 1 (by omega) hs),m0,k0,q0,s0,m1,fun _=>rfl,q1,fun h=>⟨rfl,(s1 h).2⟩,m2,k2,q2,s2,rfl⟩⟩
   ·have e0:f 4=false:=by simpa using hi0
    obtain rfl:=Option.some.inj (show some _=some o from ho);exact⟨left12 (upd f 4 true),zao f 4 (by omega) e0,zbm (.int .i64 ns.length) rfl rfl (by simp[execOp,go_sem]) ⟨upd f 4 true,r,b,x17,x18,x19,x20,.int .i64 ns.length,x22,p5,p6,p7,rfl,rfl,hid (HM.out.mark 4 (by omega)),m0,k0,q0,s0,m1,k1,q1,s1,fun _=>rfl,k2,q2,s2,rfl⟩⟩
   ·have e0:f 5=false:=by simpa using hi0
    obtain rfl:=Option.some.inj (show some _=some o from ho);have d0:f 4=true:=by simpa using hd ⟨4,.data⟩ (by simp) rfl
    have hx:=m2 d0;subst hx;have hs:f 11=false:=by cases hq:f 11 with|false=>rfl|true=>rw[(s2 hq).1]at e0;cases e0
    exact⟨left12 (upd f 5 true),zao f 5 (by omega) e0,zbm (.slice (some ⟨w'.heap.size,0,none⟩) ns.length ns.length) rfl rfl (by simp[execOp,go_sem,hmk]) ⟨upd f 5 true,upd r 2 w'.heap.size,b,x17,x18,x19,x20,.int .i64 ns.length,(.slice (some ⟨w'.heap.size,0,none⟩) ns.length ns.length),p5,p6,p7,rfl,rfl,hid (HM.out.make 2 (by omega) hs),m0,k0,q0,s0,m1,k1,q1,s1,m2,fun _=>rfl,q2,fun h=>⟨rfl,(s2 h).2⟩,rfl⟩⟩
   ·have e0:f 6=false:=by simpa using hi0
    obtain rfl:=Option.some.inj (show some _=some o from ho);have hs:f 9=false:=by cases hq:f 9 with|false=>rfl|true=>rw[(s0 hq).2]at e0;cases e0
    exact⟨left12 (upd f 6 true),zao f 6 (by omega) e0,zbm (.pointer (some ⟨w'.heap.size,0,none⟩)) rfl rfl (by simp[execOp,go_sem]) ⟨upd f 6 true,r,upd b 0 w'.heap.size,x17,x18,x19,x20,x21,x22,(.pointer (some ⟨w'.heap.size,0,none⟩)),p6,p7,rfl,rfl,hid (HM.out.boxed 0 (by omega) hs),m0,k0,fun _=>rfl,fun h=>⟨(s0 h).1,rfl⟩,m1,k1,q1,s1,m2,k2,q2,s2,rfl⟩⟩
   ·have e0:f 7=false:=by simpa using hi0
    obtain rfl:=Option.some.inj (show some _=some o from ho);have hs:f 10=false:=by cases hq:f 10 with|false=>rfl|true=>rw[(s1 hq).2]at e0;cases e0
    exact⟨left12 (upd f 7 true),zao f 7 (by omega) e0,zbm (.pointer (some ⟨w'.heap.size,0,none⟩)) rfl rfl (by simp[execOp,go_sem]) ⟨upd f 7 true,r,upd b 1 w'.heap.size,x17,x18,x19,x20,x21,x22,p5,(.pointer (some ⟨w'.heap.size,0,none⟩)),p7,rfl,rfl,hid (HM.out.boxed 1 (by omega) hs),m0,k0,q0,s0,m1,k1,fun _=>rfl,fun h=>⟨(s1 h).1,rfl⟩,m2,k2,q2,s2,rfl⟩⟩
   ·have e0:f 8=false:=by simpa using hi0
    obtain rfl:=Option.some.inj (show some _=some o from ho);have hs:f 11=false:=by cases hq:f 11 with|false=>rfl|true=>rw[(s2 hq).2]at e0;cases e0
    exact⟨left12 (upd f 8 true),zao f 8 (by omega) e0,zbm (.pointer (some ⟨w'.heap.size,0,none⟩)) rfl rfl (by simp[execOp,go_sem]) ⟨upd f 8 true,r,upd b 2 w'.heap.size,x17,x18,x19,x20,x21,x22,p5,p6,(.pointer (some ⟨w'.heap.size,0,none⟩)),rfl,rfl,hid (HM.out.boxed 2 (by omega) hs),m0,k0,q0,s0,m1,k1,q1,s1,m2,k2,fun _=>rfl,fun h=>⟨(s2 h).1,rfl⟩,rfl⟩⟩
   ·have e0:f 9=false:=by simpa using hi0
    obtain rfl:=Option.some.inj (show some _=some o from ho);have d1:f 6=true:=by simpa using hd ⟨6,.data⟩ (by simp) rfl
    have d2:f 1=true:=by simpa using hd ⟨1,.data⟩ (by simp) rfl
    have hx:=k0 d2;subst hx;have hp:=q0 d1;subst hp;have hbx:=(HM.out.box 0 (by omega) d1).2;have hc:w'.cell? ⟨b 0,0,none⟩=some (.slice none 0 0):=by rw[hbx.cell 0];simp[e0]
    have hz:=hbx.frozen 0;exact⟨left12 (upd f 9 true),zao f 9 (by omega) e0,zjj (w':=w'.setCell ⟨b 0,0,none⟩ (.slice (some ⟨r 0,0,none⟩) ns.length ns.length)) rfl rfl (by simp[execOp,go_sem,hc,hz]) ⟨upd f 9 true,r,b,x17,(.slice (some ⟨r 0,0,none⟩) ns.length ns.length),x19,x20,x21,x22,(.pointer (some ⟨b 0,0,none⟩)),p6,p7,rfl,rfl,hid (HM.out.fill 0 (by omega) d1),m0,k0,q0,fun _=>⟨d2,d1⟩,m1,k1,q1,s1,m2,k2,q2,s2,rfl⟩⟩
   ·have e0:f 10=false:=by simpa using hi0
    obtain rfl:=Option.some.inj (show some _=some o from ho);have d1:f 7=true:=by simpa using hd ⟨7,.data⟩ (by simp) rfl
    have d2:f 3=true:=by simpa using hd ⟨3,.data⟩ (by simp) rfl
    have hx:=k1 d2;subst hx;have hp:=q1 d1;subst hp;have hbx:=(HM.out.box 1 (by omega) d1).2;have hc:w'.cell? ⟨b 1,0,none⟩=some (.slice none 0 0):=by rw[hbx.cell 0];simp[e0]
    have hz:=hbx.frozen 0;exact⟨left12 (upd f 10 true),zao f 10 (by omega) e0,zjj (w':=w'.setCell ⟨b 1,0,none⟩ (.slice (some ⟨r 1,0,none⟩) ns.length ns.length)) rfl rfl (by simp[execOp,go_sem,hc,hz]) ⟨upd f 10 true,r,b,x17,x18,x19,(.slice (some ⟨r 1,0,none⟩) ns.length ns.length),x21,x22,p5,(.pointer (some ⟨b 1,0,none⟩)),p7,rfl,rfl,hid (HM.out.fill 1 (by omega) d1),m0,k0,q0,s0,m1,k1,q1,fun _=>⟨d2,d1⟩,m2,k2,q2,s2,rfl⟩⟩
   ·have e0:f 11=false:=by simpa using hi0
    obtain rfl:=Option.some.inj (show some _=some o from ho);have d1:f 8=true:=by simpa using hd ⟨8,.data⟩ (by simp) rfl
    have d2:f 5=true:=by simpa using hd ⟨5,.data⟩ (by simp) rfl
    have hx:=k2 d2;subst hx;have hp:=q2 d1;subst hp;have hbx:=(HM.out.box 2 (by omega) d1).2;have hc:w'.cell? ⟨b 2,0,none⟩=some (.slice none 0 0):=by rw[hbx.cell 0];simp[e0]
    have hz:=hbx.frozen 0;exact⟨left12 (upd f 11 true),zao f 11 (by omega) e0,zjj (w':=w'.setCell ⟨b 2,0,none⟩ (.slice (some ⟨r 2,0,none⟩) ns.length ns.length)) rfl rfl (by simp[execOp,go_sem,hc,hz]) ⟨upd f 11 true,r,b,x17,x18,x19,x20,x21,(.slice (some ⟨r 2,0,none⟩) ns.length ns.length),p5,p6,(.pointer (some ⟨b 2,0,none⟩)),rfl,rfl,hid (HM.out.fill 2 (by omega) d1),m0,k0,q0,s0,m1,k1,q1,s1,m2,k2,q2,fun _=>⟨d2,d1⟩,rfl⟩⟩
  case fin=>
   rintro m listed a' w' ⟨f,r,b,x17,x18,x19,x20,x21,x22,p5,p6,p7,rfl,rfl,HM,m0,k0,q0,s0,m1,k1,q1,s1,m2,k2,q2,s2,rfl⟩ hr;have nm:=fun i=>mt mem_ready.2 (List.eq_nil_iff_forall_not_mem.1 hr i)
   have t0:f 0=true:=by
    cases e:f 0 with
    |true=>rfl
    |false=>exact(nm 0 ⟨by simpa using e,_,rfl,by simp[Region.binds, *]⟩).elim
   have t2:f 2=true:=by
    cases e:f 2 with
    |true=>rfl
    |false=>exact(nm 2 ⟨by simpa using e,_,rfl,by simp[Region.binds, *]⟩).elim
   have t4:f 4=true:=by
    cases e:f 4 with
    |true=>rfl
    |false=>exact(nm 4 ⟨by simpa using e,_,rfl,by simp[Region.binds, *]⟩).elim
   have t6:f 6=true:=by
    cases e:f 6 with
    |true=>rfl
    |false=>exact(nm 6 ⟨by simpa using e,_,rfl,by simp[Region.binds, *]⟩).elim
   have t7:f 7=true:=by
    cases e:f 7 with
    |true=>rfl
    |false=>exact(nm 7 ⟨by simpa using e,_,rfl,by simp[Region.binds, *]⟩).elim
   have t8:f 8=true:=by
    cases e:f 8 with
    |true=>rfl
    |false=>exact(nm 8 ⟨by simpa using e,_,rfl,by simp[Region.binds, *]⟩).elim
   have t1:f 1=true:=by
    cases e:f 1 with
    |true=>rfl
    |false=>exact(nm 1 ⟨by simpa using e,_,rfl,by simp[Region.binds, *]⟩).elim
   have t3:f 3=true:=by
    cases e:f 3 with
    |true=>rfl
    |false=>exact(nm 3 ⟨by simpa using e,_,rfl,by simp[Region.binds, *]⟩).elim
   have t5:f 5=true:=by
    cases e:f 5 with
    |true=>rfl
    |false=>exact(nm 5 ⟨by simpa using e,_,rfl,by simp[Region.binds, *]⟩).elim
   have t9:f 9=true:=by
    cases e:f 9 with
    |true=>rfl
    |false=>exact(nm 9 ⟨by simpa using e,_,rfl,by simp[Region.binds, *]⟩).elim
   have t10:f 10=true:=by
    cases e:f 10 with
    |true=>rfl
    |false=>exact(nm 10 ⟨by simpa using e,_,rfl,by simp[Region.binds, *]⟩).elim
   have t11:f 11=true:=by
    cases e:f 11 with
    |true=>rfl
    |false=>exact(nm 11 ⟨by simpa using e,_,rfl,by simp[Region.binds, *]⟩).elim
   have hf:f=fun k=>f k:=rfl
   have hall:∀k,k<12->f k=true:=by
    intro k hk;obtain rfl|rfl|rfl|rfl|rfl|rfl|rfl|rfl|rfl|rfl|rfl|rfl:k=0\/k=1\/k=2\/k=3\/k=4\/k=5\/k=6\/k=7\/k=8\/k=9\/k=10\/k=11:=by omega
    all_goals assumption
   have hM:Mk3 ns.length w1 w' (fun _=>true) r b:=⟨HM.out.below,fun j hj _=>HM.out.row j hj (hall _ (by omega)),fun j hj _=>by
    have:=HM.out.box j hj (hall _ (by omega));rw[hall (9+j) (by omega)]at this;exact this,fun j k hj hk hne _ _=>HM.out.rr j k hj hk hne (hall _ (by omega)) (hall _ (by omega)),fun j k hj hk hne _ _=>HM.out.bb j k hj hk hne (hall _ (by omega)) (hall _ (by omega))⟩
   have hp5:=q0 t6;have hp6:=q1 t7;have hp7:=q2 t8;subst hp5;subst hp6;subst hp7;have HMM:=hid hM;clear hM hall hf nm hr HM m0 k0 q0 s0 m1 k1 q1 s1 m2 k2 q2 s2 t0 t1 t2 t3 t4 t5 t6 t7 t8 t9 t10 t11;go_wp2;go_meet;exact⟨r,b,rfl,rfl,rfl,HMM⟩
 case rest=>
  obtain⟨r,b,rfl,rfl,rfl,HM⟩:=hcut;obtain⟨m0,hm0⟩:∃m0:Nat->List Int,(fun k=>List.replicate k (-1:Int)++List.replicate (ns.length-k) 0)=m0:=⟨_,rfl⟩
  have HM0:Hid (∀k,k<ns.length->(m0 k).set k (-1)=m0 (k+1)/\(m0 k).length=ns.length/\(m0 k).getD k (-1)=0):=hid (fun k hk=>by
   rw[<-hm0];refine⟨?_,by simp;omega,?_⟩
   ·simp only;rw[List.set_append_right _ _ (by simp),List.length_replicate,Nat.sub_self,show ns.length-k=(ns.length-(k+1))+1 from by omega,List.replicate_succ,List.set_cons_zero,List.replicate_succ',List.append_assoc];rfl
   ·simp only;rw[List.getD_eq_getElem?_getD,List.getElem?_append_right (by simp),List.length_replicate,Nat.sub_self,List.getElem?_replicate,if_pos (by omega)];rfl)
  have HZ0:Hid (icells (List.replicate ns.length 0)=jcells (m0 0)):=hid (by rw[<-hm0];simp[icells,jcells]);have HZN:Hid (m0 ns.length=List.replicate ns.length (-1)):=hid (by rw[<-hm0];simp);clear hm0;obtain⟨r2,hr2⟩:=ex (r 2)
  obtain⟨b2,hb2⟩:=ex (b 2)
  have HB2:Hid (Blk wc b2 33 #[.slice (some ⟨r2,0,none⟩) ns.length ns.length]/\Blk wc r2 3 (jcells (m0 0))):=hid (by
   have h1:=(HM.out.box 2 (by omega) rfl).2;have h2:=(HM.out.row 2 (by omega) rfl).2;rw[HZ0.out]at h2;subst hr2;subst hb2;exact⟨by simpa using h1,h2⟩)
  have HRB:=hid (And.intro hr2 hb2);(try rw[hb2]);clear hr2 hb2;have c0:wc.cell? ⟨b2,0,none⟩=some (.slice (some ⟨r2,0,none⟩) ns.length ns.length):=HB2.out.1.cell 0;have hbr:b2≠r2:=HB2.out.1.ne_ HB2.out.2 (by decide);go_upto_region 4 with fail;clear c0;go_loopw [25] (fun s25 wr=>∃k:Nat,k<=ns.length/\s25=.int .i64 k/\Hid (KB r2 wc wr/\Blk wr r2 3 (jcells (m0 k)))) (fun s25 _=>ns.length-(intOf s25).toNat)
  case atStart=>exact⟨0,by omega,rfl,hid ⟨KB.refl _ _,HB2.out.2⟩⟩
  case round=>
   obtain⟨k,hk,rfl,HW⟩:=hrel;by_cases hlk:k<ns.length
   ·have hlkI:(k:Int)<(ns.length:Int):=by omega
    have c0:wr.cell? ⟨b2,0,none⟩=some (.slice (some ⟨r2,0,none⟩) ns.length ns.length):=(HW.out.1.blk HB2.out.1 hbr).cell 0;obtain⟨e1,e2,e3⟩:=HM0.out k hlk;have z0:wr.cell? ⟨r2,k,none⟩=some (.int .i64 0):=by rw[HW.out.2.cell,zb3 (by omega),e3]
    have zf:∀i,wr.frozen? ⟨r2,i,none⟩=false:=HW.out.2.frozen;have HN2:Hid (KB r2 wc (wr.setCell ⟨r2,k,none⟩ (.int .i64 (-1)))/\Blk (wr.setCell ⟨r2,k,none⟩ (.int .i64 (-1))) r2 3 (jcells (m0 (k+1)))):=hid ⟨HW.out.1.set _ _,by
     rw[<-e1,<-zf5];exact HW.out.2.set_ k _⟩
    clear e1 e2 e3 HW;go_wp2;go_roundw
    case rel=>exact⟨k+1,by omega,by go_num,HN2⟩
    case measure=>simp[intOf];omega
   ·have hlkI:¬((k:Int)<(ns.length:Int)):=by omega
    have HWN:Hid (KB r2 wc wr/\Blk wr r2 3 (jcells (List.replicate ns.length (-1)))):=hid (by
     have:=HW.out;rw[show k=ns.length from by omega,HZN.out]at this;exact this)
    clear HW;go_upto_region 13 with fail;have hgb:=HGB.out;have hw1s:w1.heap.size=gb+1:=by rw[<-HW1.out,<-hgb];simp
    have l1:Below w.heap.size w w1:=by rw[<-HW1.out];exact(Below.refl _ _).alloc (Nat.le_refl _) _
    have bg1:Blk w1 gb 24 #[.slice A ns.length c,.int .i64 root]:=by rw[<-HW1.out,<-hgb];exact Blk.new _ _ _
    obtain⟨hr2,hb2⟩:=HRB.out;obtain⟨x0,y0⟩:=HM.out.row 0 (by omega) rfl;obtain⟨x1,y1⟩:=HM.out.row 1 (by omega) rfl;obtain⟨x2,y2⟩:=HM.out.row 2 (by omega) rfl;obtain⟨_,z0⟩:=HM.out.box 0 (by omega) rfl;obtain⟨_,z1⟩:=HM.out.box 1 (by omega) rfl;have n01:=HM.out.rr 0 1 (by omega) (by omega) (by omega) rfl rfl;have n02:=HM.out.rr 0 2 (by omega) (by omega) (by omega) rfl rfl;have n12:=HM.out.rr 1 2 (by omega) (by omega) (by omega) rfl rfl;rw[hr2]at x2 y2 n02 n12;have bgc:=bg1.below HM.out.below (by omega);have hkb:=HWN.out.1;have lwr:Below w.heap.size w wr:=(l1.trans (HM.out.below.mono (by omega))).trans (hkb.below (by omega) (by have:=l1.size;have:=HM.out.below.size;omega));have hws:=lwr.size;obtain⟨z,hz⟩:=ex wr.heap.size
    rw[hz];obtain⟨W,hW⟩:=ex ((((((wr.alloc (.cells #[.slice none 0 0] 33)).alloc (.cells #[.slice none 0 0] 33)).alloc (.cells (bcells (List.replicate ns.length false)) 4)).alloc (.cells #[.slice (some ⟨z+1+1,0,none⟩) ns.length ns.length] 62)).alloc (.cells #[.int .i64 0] 3)).alloc (.cells #[(compL z gb (b 0) (b 1) b2 (r 0) (r 1) r2).fn] 88))
    obtain⟨hT,lW,hWs⟩:=zmd w.heap.size z gb (b 0) (b 1) b2 (r 0) (r 1) r2 A c root vs ns wr W hz hW
     (hkb.blk (by simpa using z0) (z0.ne_ y2 (by decide))) (hkb.blk (by simpa using z1) (z1.ne_ y2 (by decide))) (hkb.blk HB2.out.1 hbr) (hkb.blk y0 n02) (hkb.blk y1 n12) HWN.out.2
     (hkb.blk bgc (by omega)) n01 n02 n12 (by omega) (by omega) (by omega) (by omega) (H.out.below lwr)
    unfold compL TL.fn at hW;simp only at hW;rw[hW];have HT:=hid hT;have HLW:=hid (lwr.trans (lW.mono hws));have v0:W.cell? ⟨z+1+1+1+1+1,0,none⟩=some (compL z gb (b 0) (b 1) b2 (r 0) (r 1) r2).fn:=hT.xV.cell 0;unfold compL TL.fn at v0;simp only at v0;have g1:W.cell? ⟨gb,1,none⟩=some (.int .i64 root):=hT.xG.cell 1;have hC:=zmc (y:=compL z gb (b 0) (b 1) b2 (r 0) (r 1) r2) hr hl hks ns.length (tzero ns.length) root (fun _=>False) W _ _ hT (zhr _) hroot (zcu _ _) (fun g h=>h.elim) (Nat.le_trans List.countP_le_length (by simp));unfold TL.args compL at hC;simp only at hC;have HC:=hid hC;have HX:Hid (w.heap.size<=r2/\w.heap.size<=z+1+1+1+1+1+1):=hid ⟨by omega,by omega⟩;clear hW hT hC l1 bg1 y0 y1 y2 z0 z1 bgc hkb lwr lW;go_wp2_with fail;refine HC.out.mono ?_;rintro e w9 ⟨rfl,sv,zv,h9,f9⟩;obtain⟨Az,cz,hzv,_⟩:=h9.siz.form;subst hzv;have q1:w9.cell? ⟨b2,0,none⟩=some (.slice (some ⟨r2,0,none⟩) ns.length ns.length):=h9.xC.cell 0;have q2:w9.cell? ⟨z,0,none⟩=some (.slice Az (tvisit (Gr.succ ns) ns.length (tzero ns.length) root).sizes.length cz):=h9.bZ.cell 0;have HFIN:Hid (Below w.heap.size w w9/\Blk w9 r2 3 (jcells (tcomp (Gr.succ ns) ns.length root).inn)/\OwnRow intL w9 w.heap.size 3 (.slice Az (tcomp (Gr.succ ns) ns.length root).sizes.length cz) (tcomp (Gr.succ ns) ns.length root).sizes):=
     hid ⟨HLW.out.trans (HT.out.tfBelow f9),h9.rC,h9.siz.lower HX.out.2⟩
    clear v0 g1 h9 f9;go_upto_region 14 with fail;go_quiet (fail);go_wp2_with fail;refine bodyPost_ret (v:=.tuple #[.slice (some ⟨r2,0,none⟩) ns.length ns.length,.slice Az (tvisit (Gr.succ ns) ns.length (tzero ns.length) root).sizes.length cz]) (by simp[results,results65,go_sem]) rfl ?_;exact⟨r2,Az,cz,rfl,HX.out.1,below_drewN HFIN.out.1 _,HFIN.out.2.1.drewN _,HFIN.out.2.2.drewN _⟩
theorem zef (n:Gr.Str) (hl:n.length<=1073741823) (w:World):
 Calls prog 69 #[.string ⟨n.toArray⟩] w fun e w'=>e=.returned (.bool (Gr.intB n))/\Below w.heap.size w w':=by
 have HC:=Lib.hid (fun W=>zjz n hl W);obtain⟨r,hr⟩:=ex (Gr.intB n)
 rw[hr]at HC ⊢;clear hr;go_enter func69,ntmps69;go_wp2_with fail;refine(HC.out _).mono ?_;rintro e w2 ⟨b,A,m,c,rfl,hb⟩;have HB:=Lib.hid hb;clear hb;go_wp2;go_ret;exact⟨rfl,HB.out.alloc HB.out.size _⟩
theorem zuh (s:Gr.Str) (k:Nat) (i:Int) (hi:i=k) (h:k<=s.length) (W:World):(Instr.slice 9 (.string ⟨s.toArray⟩) none (some (.int .i64 i)) none).run prog W=.ok (.string ⟨(s.take k).toArray⟩) W:=by
 subst hi;rw[run_slice_string_h (P:=prog) W 9 ⟨s.toArray⟩ underlying9 .i64 k (by omega) (by simp[ByteArray.size];omega)]
 congr 2
 apply ByteArray.ext;simp
theorem zxw (s:Gr.Str) (k:Nat) (i:Int) (hi:i=k) (h:k<=s.length) (W:World):(Instr.slice 9 (.string ⟨s.toArray⟩) (some (.int .i64 i)) none none).run prog W=.ok (.string ⟨(s.drop k).toArray⟩) W:=by
 subst hi;rw[run_slice_string_l (P:=prog) W 9 ⟨s.toArray⟩ underlying9 .i64 k (by omega) (by simp[ByteArray.size];omega)]
 congr 2
 apply ByteArray.ext;simp[ByteArray.size];rw[List.take_of_length_le (by simp)]
theorem zvr (a b:Gr.Str):(⟨a.toArray⟩:ByteArray)++⟨b.toArray⟩=⟨(a++b).toArray⟩:=by
 apply ByteArray.ext;simp
theorem zab (a b:Gr.Str) (h:a.length+b.length<=9223372036854775807) (W:World):(Op.stringOp .add ⟨a.toArray⟩ ⟨b.toArray⟩).run prog W=.ok (.string ⟨(a++b).toArray⟩) W:=by
 rw[run_string_add_sum (P:=prog) (w:=W) ⟨a.toArray⟩ ⟨b.toArray⟩ (by simpa[ByteArray.size]using h),zvr]
theorem zpu (a b:Gr.Str):((⟨a.toArray⟩:ByteArray)==⟨b.toArray⟩)=decide (a=b):=by
 show(a.toArray==b.toArray)=_;rw[Bool.eq_iff_iff];simp
end Go.Proofs.YtoigpackhninoaaGreatDoor

import Derived.Test.YtoigpackhninoaaGreatDoorGrVisit
import Derived.Test.YtoigpackhninoaaGreatDoorZ16
namespace Go.Proofs.YtoigpackhninoaaGreatDoor
open Go.RowKit
def compL (z gb b0 b1 b2 r0 r1 r2:Nat):TL:=⟨z+1+1+1+1,b0,b1,z+1,z+1+1+1,z+1+1+1+1+1,gb,z,b2,r0,r1,r2,z+1+1⟩
theorem zjn (B z gb b0 b1 b2 r0 r1 r2:Nat) (A:Option Addr) (c:Nat) (root:Int) (vs:List NV) (ns:List Gr.Nd) (wr W:World) (hz:wr.heap.size=z)
 (hW:((((((wr.alloc (.cells #[.slice none 0 0] 33)).alloc (.cells #[.slice none 0 0] 33)).alloc (.cells (bcells (List.replicate ns.length false)) 4)).alloc (.cells #[.slice (some ⟨z+1+1,0,none⟩) ns.length ns.length] 62)).alloc (.cells #[.int .i64 0] 3)).alloc (.cells #[(compL z gb b0 b1 b2 r0 r1 r2).fn] 88))=W)
 (hI:Blk wr b0 33 #[.slice (some ⟨r0,0,none⟩) ns.length ns.length]) (hL:Blk wr b1 33 #[.slice (some ⟨r1,0,none⟩) ns.length ns.length]) (hC:Blk wr b2 33 #[.slice (some ⟨r2,0,none⟩) ns.length ns.length])
 (hrI:Blk wr r0 3 (icells (List.replicate ns.length 0))) (hrL:Blk wr r1 3 (icells (List.replicate ns.length 0))) (hrC:Blk wr r2 3 (jcells (List.replicate ns.length (-1))))
 (hG:Blk wr gb 24 #[.slice A ns.length c,.int .i64 root]) (h01:r0≠r1) (h02:r0≠r2) (h12:r1≠r2) (hB:B<=z) (hB0:B<=r0) (hB1:B<=r1) (hB2:B<=r2) (hat:GAt wr B A vs ns):
 TAt (compL z gb b0 b1 b2 r0 r1 r2) B (z+1+1+1+1+1+1) A c root vs ns W (Gr.tzero ns.length) (.slice none 0 0) (.slice none 0 0)/\Below wr.heap.size wr W/\W.heap.size=z+1+1+1+1+1+1:=by
 have l:Below wr.heap.size wr W:=by rw[<-hW];exact((((((Below.refl _ _).alloc (Nat.le_refl _) _).alloc (by simp) _).alloc (by simp;omega) _).alloc (by simp;omega) _).alloc (by simp;omega) _).alloc (by simp;omega) _
 have hs:W.heap.size=z+1+1+1+1+1+1:=by rw[<-hW];simp[hz]
 have k1:=hI.lt;have k2:=hL.lt;have k3:=hC.lt;have k4:=hrI.lt;have k5:=hrL.lt;have k6:=hrC.lt;have n0:Blk W z 33 #[.slice none 0 0]:=by rw[<-hW,<-hz];exact(((((Blk.new _ _ _).alloc _).alloc _).alloc _).alloc _).alloc _
 have n1:Blk W (z+1) 33 #[.slice none 0 0]:=by
  rw[<-hW];have:=Blk.new (wr.alloc (.cells #[.slice none 0 0] 33)) 33 #[.slice none 0 0];rw[World.size_alloc,hz]at this;exact(((this.alloc _).alloc _).alloc _).alloc _
 have n2:Blk W (z+1+1) 4 (bcells (List.replicate ns.length false)):=by
  rw[<-hW];have:=Blk.new ((wr.alloc (.cells #[.slice none 0 0] 33)).alloc (.cells #[.slice none 0 0] 33)) 4 (bcells (List.replicate ns.length false));simp only[World.size_alloc,hz]at this;exact(((this.alloc _).alloc _).alloc _)
 have n3:Blk W (z+1+1+1) 62 #[.slice (some ⟨z+1+1,0,none⟩) ns.length ns.length]:=by
  rw[<-hW];have:=Blk.new (((wr.alloc (.cells #[.slice none 0 0] 33)).alloc (.cells #[.slice none 0 0] 33)).alloc (.cells (bcells (List.replicate ns.length false)) 4)) 62 #[.slice (some ⟨z+1+1,0,none⟩) ns.length ns.length];simp only[World.size_alloc,hz]at this;exact((this.alloc _).alloc _)
 have n4:Blk W (z+1+1+1+1) 3 #[.int .i64 0]:=by
  rw[<-hW];have:=Blk.new ((((wr.alloc (.cells #[.slice none 0 0] 33)).alloc (.cells #[.slice none 0 0] 33)).alloc (.cells (bcells (List.replicate ns.length false)) 4)).alloc (.cells #[.slice (some ⟨z+1+1,0,none⟩) ns.length ns.length] 62)) 3 #[.int .i64 0];simp only[World.size_alloc,hz]at this;exact(this.alloc _)
 have n5:Blk W (z+1+1+1+1+1) 88 #[(compL z gb b0 b1 b2 r0 r1 r2).fn]:=by
  rw[<-hW];have:=Blk.new (((((wr.alloc (.cells #[.slice none 0 0] 33)).alloc (.cells #[.slice none 0 0] 33)).alloc (.cells (bcells (List.replicate ns.length false)) 4)).alloc (.cells #[.slice (some ⟨z+1+1,0,none⟩) ns.length ns.length] 62)).alloc (.cells #[.int .i64 0] 3)) 88 #[(compL z gb b0 b1 b2 r0 r1 r2).fn];simp only[World.size_alloc,hz]at this;exact this
 refine⟨⟨⟨?_,?_,?_,h01,h02,h12,?_,?_,?_,?_,?_,?_,?_,?_,?_,?_,?_,?_,?_,?_,?_⟩,by omega,hI.below l k1,hL.below l k2,hC.below l k3,n3,n5,hG.below l hG.lt,hat.below (l.mono (by omega)),n4,n1,n0,hrI.below l k4,hrL.below l k5,hrC.below l k6,n2,OwnRow.nil,OwnRow.nil,fun k e=>by cases e⟩,l,hs⟩
 all_goals (simp only[compL];omega)
section
variable {P:Program} {md:Region.Mode} {ops:Array Oper} {Q:Exit->Act->World->Prop}
theorem zjo (Inv:Nat->Array Bool->Act->World->Prop)
 (hstep:∀m listed a w i,Inv m listed a w->i∈Region.ready md ops listed->∃m',m=m'+1/\wpOp P ops Q i (fun a' w'=>Inv m' (listed.setIfInBounds i true) a' w') a w)
 (hend:∀m listed a w,Inv m listed a w->Region.ready md ops listed=[]->Q .normal a w):
 ∀fuel listed a w,Inv fuel listed a w->wpAny P md ops Q fuel listed a w:=by
 intro fuel
 induction fuel with
 |zero=>
  intro listed a w h;have hr:Region.ready md ops listed=[]:=List.eq_nil_iff_forall_not_mem.2 (fun i hi=>by obtain⟨m',hm,_⟩:=hstep _ _ _ _ i h hi;omega);exact⟨hr,hend _ _ _ _ h hr⟩
 |succ fuel ih=>
  intro listed a w h;refine⟨fun hr=>hend _ _ _ _ h hr,fun i hi=>?_⟩;obtain⟨m',hm,hw⟩:=hstep _ _ _ _ i h hi;obtain rfl:m'=fuel:=by omega
  exact wpOp_mono (fun a w h=>ih _ _ _ h) hw
variable {i:Nat} {o:Oper} {K:Act->World->Prop} {a:Act} {w w':World}
theorem za9 (v:Value) (ho:ops[i]? =some o) (hg:o.guard=none) (hrun:(execOp a.eval o).run P w=.ok (.value v) w') (hK:K (a.put o.dst v) w'):wpOp P ops Q i K a w:=by
 unfold wpOp;rw[ho];simp only[Region.wanted,hg,if_true];left;unfold Oper.wp;rw[hrun];exact hK
theorem zhi (ho:ops[i]? =some o) (hg:o.guard=none) (hrun:(execOp a.eval o).run P w=.ok .skip w') (hK:K (a.put o.dst undef) w'):wpOp P ops Q i K a w:=by
 unfold wpOp;rw[ho];simp only[Region.wanted,hg,if_true];left;unfold Oper.wp;rw[hrun];exact hK
end
open Gr
open _root_.Go.Proofs.Tryz
open _root_.Go.Lib (hid)
set_option maxRecDepth 100000
set_option maxHeartbeats 16000000
structure Mk3 (n:Nat) (w1 W:World) (f:Nat->Bool) (r b:Nat->Nat):Prop where
 below:Below w1.heap.size w1 W
 row:∀j,j<3->f (2*j+1)=true->w1.heap.size<=r j/\Blk W (r j) 3 (icells (List.replicate n 0))
 box:∀j,j<3->f (6+j)=true->w1.heap.size<=b j/\Blk W (b j) 33 #[if f (9+j)then .slice (some ⟨r j,0,none⟩) n n else .slice none 0 0]
 rr:∀j k,j<3->k<3->j≠k->f (2*j+1)=true->f (2*k+1)=true->r j≠r k
 bb:∀j k,j<3->k<3->j≠k->f (6+j)=true->f (6+k)=true->b j≠b k
def upd {α:Type} (f:Nat->α) (i:Nat) (x:α):Nat->α:=fun k=>if k=i then x else f k
theorem Mk3.start (n:Nat) (w1:World) (r b:Nat->Nat):Mk3 n w1 w1.drew (fun _=>false) r b:=
 ⟨below_drewN (Below.refl _ _) 1,fun _ _ h=>by(cases h),fun _ _ h=>by(cases h),fun _ _ _ _ _ h=>by(cases h),fun _ _ _ _ _ h=>by(cases h)⟩
variable {n:Nat} {w1 W:World} {f:Nat->Bool} {r b:Nat->Nat}
theorem Mk3.mark (h:Mk3 n w1 W f r b) (i:Nat) (hi:i=0\/i=2\/i=4):Mk3 n w1 W (upd f i true) r b:=by
 have e:∀k,k≠i->upd f i true k=f k:=fun k hk=>by unfold upd;rw[if_neg hk]
 refine⟨h.below,fun j hj=>?_,fun j hj=>?_,fun j k hj hk=>?_,fun j k hj hk=>?_⟩
 ·rw[e _ (by omega)];exact h.row j hj
 ·rw[e _ (by omega),e _ (by omega)];exact h.box j hj
 ·rw[e _ (by omega),e _ (by omega)];exact h.rr j k hj hk
 ·rw[e _ (by omega),e _ (by omega)];exact h.bb j k hj hk
theorem Mk3.make (h:Mk3 n w1 W f r b) (j0:Nat) (hj0:j0<3) (hs:f (9+j0)=false):Mk3 n w1 (W.alloc (.cells (icells (List.replicate n 0)) 3)) (upd f (2*j0+1) true) (upd r j0 W.heap.size) b:=by
 have e:∀k,k≠2*j0+1->upd f (2*j0+1) true k=f k:=fun k hk=>by unfold upd;rw[if_neg hk]
 have er:∀k,k≠j0->upd r j0 W.heap.size k=r k:=fun k hk=>by unfold upd;rw[if_neg hk]
 have er0:upd r j0 W.heap.size j0=W.heap.size:=by unfold upd;rw[if_pos rfl]
 have hws:=h.below.size;refine⟨h.below.alloc hws _,fun j hj hf=>?_,fun j hj=>?_,fun j k hj hk hne hf hg=>?_,fun j k hj hk=>?_⟩
 ·by_cases hjj:j=j0
  ·subst hjj;rw[er0];exact⟨hws,Blk.new _ _ _⟩
  ·rw[e _ (by omega)]at hf;rw[er _ hjj];obtain⟨h1,h2⟩:=h.row j hj hf;exact⟨h1,h2.alloc _⟩
 ·rw[e _ (by omega),e _ (by omega)];intro hf;obtain⟨h1,h2⟩:=h.box j hj hf;refine⟨h1,?_⟩;by_cases hjj:j=j0
  ·subst hjj;rw[hs]at h2 ⊢;exact h2.alloc _
  ·rw[er _ hjj];exact h2.alloc _
 ·by_cases hjj:j=j0
  ·subst hjj;rw[er0,er k (by omega)];rw[e _ (by omega)]at hg;have:=(h.row k hk hg).2.lt;omega
  ·rw[e _ (by omega)]at hf;rw[er j hjj];by_cases hkk:k=j0
   ·subst hkk;rw[er0];have:=(h.row j hj hf).2.lt;omega
   ·rw[e _ (by omega)]at hg;rw[er k hkk];exact h.rr j k hj hk hne hf hg
 ·rw[e _ (by omega),e _ (by omega)];exact h.bb j k hj hk
theorem Mk3.boxed (h:Mk3 n w1 W f r b) (j0:Nat) (hj0:j0<3) (hs:f (9+j0)=false):Mk3 n w1 (W.alloc (.cells #[.slice none 0 0] 33)) (upd f (6+j0) true) r (upd b j0 W.heap.size):=by
 have e:∀k,k≠6+j0->upd f (6+j0) true k=f k:=fun k hk=>by unfold upd;rw[if_neg hk]
 have er:∀k,k≠j0->upd b j0 W.heap.size k=b k:=fun k hk=>by unfold upd;rw[if_neg hk]
 have er0:upd b j0 W.heap.size j0=W.heap.size:=by unfold upd;rw[if_pos rfl]
 have hws:=h.below.size;refine⟨h.below.alloc hws _,fun j hj=>?_,fun j hj hf=>?_,fun j k hj hk=>?_,fun j k hj hk hne hf hg=>?_⟩
 ·rw[e _ (by omega)];intro hf;obtain⟨h1,h2⟩:=h.row j hj hf;exact⟨h1,h2.alloc _⟩
 ·rw[e (9+j) (by omega)];by_cases hjj:j=j0
  ·subst hjj;rw[er0,hs];exact⟨hws,Blk.new _ _ _⟩
  ·rw[e _ (by omega)]at hf;rw[er _ hjj];obtain⟨h1,h2⟩:=h.box j hj hf;exact⟨h1,h2.alloc _⟩
 ·rw[e _ (by omega),e _ (by omega)];exact h.rr j k hj hk
 ·by_cases hjj:j=j0
  ·subst hjj;rw[er0,er k (by omega)];rw[e _ (by omega)]at hg;have:=(h.box k hk hg).2.lt;omega
  ·rw[e _ (by omega)]at hf;rw[er j hjj];by_cases hkk:k=j0
   ·subst hkk;rw[er0];have:=(h.box j hj hf).2.lt;omega
   ·rw[e _ (by omega)]at hg;rw[er k hkk];exact h.bb j k hj hk hne hf hg
theorem Mk3.fill (h:Mk3 n w1 W f r b) (j0:Nat) (hj0:j0<3) (hb:f (6+j0)=true):Mk3 n w1 (W.setCell ⟨b j0,0,none⟩ (.slice (some ⟨r j0,0,none⟩) n n)) (upd f (9+j0) true) r b:=by
 have e:∀k,k≠9+j0->upd f (9+j0) true k=f k:=fun k hk=>by unfold upd;rw[if_neg hk]
 have e0:upd f (9+j0) true (9+j0)=true:=by unfold upd;rw[if_pos rfl]
 obtain⟨h1,h2⟩:=h.box j0 hj0 hb;refine⟨h.below.setCell (p:=⟨b j0,0,none⟩) h1 _,fun j hj=>?_,fun j hj hf=>?_,fun j k hj hk=>?_,fun j k hj hk=>?_⟩
 ·rw[e _ (by omega)];intro hf;obtain⟨h3,h4⟩:=h.row j hj hf;exact⟨h3,h4.far (h4.ne_ h2 (by decide)) _⟩
 ·rw[e (6+j) (by omega)]at hf;obtain⟨h3,h4⟩:=h.box j hj hf;refine⟨h3,?_⟩;by_cases hjj:j=j0
  ·subst hjj;rw[e0,if_pos rfl];exact h2.set_ 0 _
  ·rw[e (9+j) (by omega)];exact h4.far (h.bb j j0 hj hj0 hjj hf hb) _
 ·rw[e _ (by omega),e _ (by omega)];exact h.rr j k hj hk
 ·rw[e _ (by omega),e _ (by omega)];exact h.bb j k hj hk
def left12 (f:Nat->Bool):Nat:=cond (f 0) 0 1+cond (f 1) 0 1+cond (f 2) 0 1+cond (f 3) 0 1+cond (f 4) 0 1+cond (f 5) 0 1+cond (f 6) 0 1+cond (f 7) 0 1+cond (f 8) 0 1+cond (f 9) 0 1+cond (f 10) 0 1+cond (f 11) 0 1
theorem zai (f:Nat->Bool) (i:Nat) (hi:i<12) (h:f i=false):left12 f=left12 (upd f i true)+1:=by
 unfold left12 upd;obtain rfl|rfl|rfl|rfl|rfl|rfl|rfl|rfl|rfl|rfl|rfl|rfl:i=0\/i=1\/i=2\/i=3\/i=4\/i=5\/i=6\/i=7\/i=8\/i=9\/i=10\/i=11:=by omega
 all_goals
  simp only[h,if_true,cond_true,cond_false];simp
  try omega
theorem zer (A:Option Addr) (c root:Nat) (vs:List NV) (ns:List Gr.Nd) (hr:Refs ns) (hl:ns.length<=1073741823) (hks:∀n∈ns,n.keys.length<=1073741823/\n.items.length<=1073741823) (hroot:root<ns.length)
 (w:World) (h:GAt w w.heap.size A vs ns):
 Calls prog 65 #[.agg #[.slice A ns.length c,.int .i64 root]] w fun e w'=>∃rC Az cz,e=.returned (.tuple #[.slice (some ⟨rC,0,none⟩) ns.length ns.length,.slice Az (tcomp (Gr.succ ns) ns.length root).sizes.length cz])/\w.heap.size<=rC/\Below w.heap.size w w'/\
  Blk w' rC 3 (jcells (tcomp (Gr.succ ns) ns.length root).inn)/\OwnRow intL w' w.heap.size 3 (.slice Az (tcomp (Gr.succ ns) ns.length root).sizes.length cz) (tcomp (Gr.succ ns) ns.length root).sizes:=by
 have H:=hid h;have hmk:=fun W=>zct ns.length (by omega) W
 have hmb:=fun W=>zc5 ns.length (by omega) W
 have hrI:(root:Int)<(ns.length:Int):=by omega
 clear h;go_enter func65,ntmps65;go_upto_region 2 with fail;obtain⟨w1,hw1⟩:=ex (w.alloc (.cells #[.slice A ns.length c,.int .i64 root] 24))
 (try rw[hw1]);have HW1:=hid hw1;obtain⟨gb,hgb⟩:=ex w.heap.size
 (try rw[hgb]);have HGB:=hid hgb;clear hw1 hgb;go_cut [5,6,7] (fun s5 s6 s7 wx=>∃r b:Nat->Nat,s5=.pointer (some ⟨b 0,0,none⟩)/\s6=.pointer (some ⟨b 1,0,none⟩)/\s7=.pointer (some ⟨b 2,0,none⟩)/\Hid (Mk3 ns.length w1 wx (fun _=>true) r b))
 case first=>
  refine wp_region_any (by kernel_rfl) ?_;refine zjo (fun m listed a' w'=>∃(f:Nat->Bool) (r b:Nat->Nat) (x17 x18 x19 x20 x21 x22 p5 p6 p7:Value),listed=#[f 0,f 1,f 2,f 3,f 4,f 5,f 6,f 7,f 8,f 9,f 10,f 11]/\m=left12 f/\Hid (Mk3 ns.length w1 w' f r b)/\(f 0=true->x17=.int .i64 ns.length)/\(f 1=true->x18=.slice (some ⟨r 0,0,none⟩) ns.length ns.length)/\(f 6=true->p5=.pointer (some ⟨b 0,0,none⟩))/\(f 9=true->f 1=true/\f 6=true)/\(f 2=true->x19=.int .i64 ns.length)/\(f 3=true->x20=.slice (some ⟨r 1,0,none⟩) ns.length ns.length)/\(f 7=true->p6=.pointer (some ⟨b 1,0,none⟩))/\(f 10=true->f 3=true/\f 7=true)/\(f 4=true->x21=.int .i64 ns.length)/\(f 5=true->x22=.slice (some ⟨r 2,0,none⟩) ns.length ns.length)/\(f 8=true->p7=.pointer (some ⟨b 2,0,none⟩))/\(f 11=true->f 5=true/\f 8=true)/\a'={tmps:=List.toArray (.agg #[.slice A ns.length c,.int .i64 root]::.pointer (some ⟨gb,0,none⟩)::.slice none 0 0::.slice none 0 0::.int .i64 ns.length::p5::p6::p7::undef::undef::undef::undef::undef::undef::.pointer (some ⟨gb,0,none⟩)::.slice A ns.length c::.int .i64 ns.length::x17::x18::x19::x20::x21::x22::undef::undef::undef::undef::undef::undef::undef::undef::undef::undef::undef::undef::undef::undef::undef::undef::undef::undef::[]),defers:=[]}) ?step ?fin _ _ _ _ ?start
  case start=>
   exact⟨fun _=>false,fun _=>0,fun _=>0,undef,undef,undef,undef,undef,undef,undef,undef,undef,rfl,rfl,hid (Mk3.start _ _ _ _),fun h=>(by cases h),fun h=>(by cases h),fun h=>(by cases h),fun h=>(by cases h),fun h=>(by cases h),fun h=>(by cases h),fun h=>(by cases h),fun h=>(by cases h),fun h=>(by cases h),fun h=>(by cases h),fun h=>(by cases h),fun h=>(by cases h),rfl⟩
  case step=>
   rintro m listed a' w' i ⟨f,r,b,x17,x18,x19,x20,x21,x22,p5,p6,p7,rfl,rfl,HM,m0,k0,q0,s0,m1,k1,q1,s1,m2,k2,q2,s2,rfl⟩ hi;rw[mem_ready]at hi;obtain⟨hi0,o,ho,hd⟩:=hi;have hi12:i<12:=(Array.getElem?_eq_some_iff.1 ho).1;obtain rfl|rfl|rfl|rfl|rfl|rfl|rfl|rfl|rfl|rfl|rfl|rfl:i=0\/i=1\/i=2\/i=3\/i=4\/i=5\/i=6\/i=7\/i=8\/i=9\/i=10\/i=11:=by omega
   ·have e0:f 0=false:=by simpa using hi0
    obtain rfl:=Option.some.inj (show some _=some o from ho);exact⟨left12 (upd f 0 true),zai f 0 (by omega) e0,za9 (.int .i64 ns.length) rfl rfl (by simp[execOp,go_sem]) ⟨upd f 0 true,r,b,.int .i64 ns.length,x18,x19,x20,x21,x22,p5,p6,p7,rfl,rfl,hid (HM.out.mark 0 (by omega)),fun _=>rfl,k0,q0,s0,m1,k1,q1,s1,m2,k2,q2,s2,rfl⟩⟩
   ·have e0:f 1=false:=by simpa using hi0
    obtain rfl:=Option.some.inj (show some _=some o from ho);have d0:f 0=true:=by simpa using hd ⟨0,.data⟩ (by simp) rfl
    have hx:=m0 d0;subst hx;have hs:f 9=false:=by cases hq:f 9 with|false=>rfl|true=>rw[(s0 hq).1]at e0;cases e0
    exact⟨left12 (upd f 1 true),zai f 1 (by omega) e0,za9 (.slice (some ⟨w'.heap.size,0,none⟩) ns.length ns.length) rfl rfl (by simp[execOp,go_sem,hmk]) ⟨upd f 1 true,upd r 0 w'.heap.size,b,.int .i64 ns.length,(.slice (some ⟨w'.heap.size,0,none⟩) ns.length ns.length),x19,x20,x21,x22,p5,p6,p7,rfl,rfl,hid (HM.out.make 0 (by omega) hs),m0,fun _=>rfl,q0,fun h=>⟨rfl,(s0 h).2⟩,m1,k1,q1,s1,m2,k2,q2,s2,rfl⟩⟩
   ·have e0:f 2=false:=by simpa using hi0
    obtain rfl:=Option.some.inj (show some _=some o from ho);exact⟨left12 (upd f 2 true),zai f 2 (by omega) e0,za9 (.int .i64 ns.length) rfl rfl (by simp[execOp,go_sem]) ⟨upd f 2 true,r,b,x17,x18,.int .i64 ns.length,x20,x21,x22,p5,p6,p7,rfl,rfl,hid (HM.out.mark 2 (by omega)),m0,k0,q0,s0,fun _=>rfl,k1,q1,s1,m2,k2,q2,s2,rfl⟩⟩
   ·have e0:f 3=false:=by simpa using hi0
    obtain rfl:=Option.some.inj (show some _=some o from ho);have d0:f 2=true:=by simpa using hd ⟨2,.data⟩ (by simp) rfl
    have hx:=m1 d0;subst hx;have hs:f 10=false:=by cases hq:f 10 with|false=>rfl|true=>rw[(s1 hq).1]at e0;cases e0
    exact⟨left12 (upd f 3 true),zai f 3 (by omega) e0,za9 (.slice (some ⟨w'.heap.size,0,none⟩) ns.length ns.length) rfl rfl (by simp[execOp,go_sem,hmk]) ⟨upd f 3 true,upd r 1 w'.heap.size,b,x17,x18,.int .i64 ns.length,(.slice (some ⟨w'.heap.size,0,none⟩) ns.length ns.length),x21,x22,p5,p6,p7,rfl,rfl,hid (HM.out.make 1 (by omega) hs),m0,k0,q0,s0,m1,fun _=>rfl,q1,fun h=>⟨rfl,(s1 h).2⟩,m2,k2,q2,s2,rfl⟩⟩
   ·have e0:f 4=false:=by simpa using hi0
    obtain rfl:=Option.some.inj (show some _=some o from ho);exact⟨left12 (upd f 4 true),zai f 4 (by omega) e0,za9 (.int .i64 ns.length) rfl rfl (by simp[execOp,go_sem]) ⟨upd f 4 true,r,b,x17,x18,x19,x20,.int .i64 ns.length,x22,p5,p6,p7,rfl,rfl,hid (HM.out.mark 4 (by omega)),m0,k0,q0,s0,m1,k1,q1,s1,fun _=>rfl,k2,q2,s2,rfl⟩⟩
   ·have e0:f 5=false:=by simpa using hi0
    obtain rfl:=Option.some.inj (show some _=some o from ho);have d0:f 4=true:=by simpa using hd ⟨4,.data⟩ (by simp) rfl
    have hx:=m2 d0;subst hx;have hs:f 11=false:=by cases hq:f 11 with|false=>rfl|true=>rw[(s2 hq).1]at e0;cases e0
    exact⟨left12 (upd f 5 true),zai f 5 (by omega) e0,za9 (.slice (some ⟨w'.heap.size,0,none⟩) ns.length ns.length) rfl rfl (by simp[execOp,go_sem,hmk]) ⟨upd f 5 true,upd r 2 w'.heap.size,b,x17,x18,x19,x20,.int .i64 ns.length,(.slice (some ⟨w'.heap.size,0,none⟩) ns.length ns.length),p5,p6,p7,rfl,rfl,hid (HM.out.make 2 (by omega) hs),m0,k0,q0,s0,m1,k1,q1,s1,m2,fun _=>rfl,q2,fun h=>⟨rfl,(s2 h).2⟩,rfl⟩⟩
   ·have e0:f 6=false:=by simpa using hi0
    obtain rfl:=Option.some.inj (show some _=some o from ho);have hs:f 9=false:=by cases hq:f 9 with|false=>rfl|true=>rw[(s0 hq).2]at e0;cases e0
    exact⟨left12 (upd f 6 true),zai f 6 (by omega) e0,za9 (.pointer (some ⟨w'.heap.size,0,none⟩)) rfl rfl (by simp[execOp,go_sem]) ⟨upd f 6 true,r,upd b 0 w'.heap.size,x17,x18,x19,x20,x21,x22,(.pointer (some ⟨w'.heap.size,0,none⟩)),p6,p7,rfl,rfl,hid (HM.out.boxed 0 (by omega) hs),m0,k0,fun _=>rfl,fun h=>⟨(s0 h).1,rfl⟩,m1,k1,q1,s1,m2,k2,q2,s2,rfl⟩⟩
   ·have e0:f 7=false:=by simpa using hi0
    obtain rfl:=Option.some.inj (show some _=some o from ho);have hs:f 10=false:=by cases hq:f 10 with|false=>rfl|true=>rw[(s1 hq).2]at e0;cases e0
    exact⟨left12 (upd f 7 true),zai f 7 (by omega) e0,za9 (.pointer (some ⟨w'.heap.size,0,none⟩)) rfl rfl (by simp[execOp,go_sem]) ⟨upd f 7 true,r,upd b 1 w'.heap.size,x17,x18,x19,x20,x21,x22,p5,(.pointer (some ⟨w'.heap.size,0,none⟩)),p7,rfl,rfl,hid (HM.out.boxed 1 (by omega) hs),m0,k0,q0,s0,m1,k1,fun _=>rfl,fun h=>⟨(s1 h).1,rfl⟩,m2,k2,q2,s2,rfl⟩⟩
   ·have e0:f 8=false:=by simpa using hi0
    obtain rfl:=Option.some.inj (show some _=some o from ho);have hs:f 11=false:=by cases hq:f 11 with|false=>rfl|true=>rw[(s2 hq).2]at e0;cases e0
    exact⟨left12 (upd f 8 true),zai f 8 (by omega) e0,za9 (.pointer (some ⟨w'.heap.size,0,none⟩)) rfl rfl (by simp[execOp,go_sem]) ⟨upd f 8 true,r,upd b 2 w'.heap.size,x17,x18,x19,x20,x21,x22,p5,p6,(.pointer (some ⟨w'.heap.size,0,none⟩)),rfl,rfl,hid (HM.out.boxed 2 (by omega) hs),m0,k0,q0,s0,m1,k1,q1,s1,m2,k2,fun _=>rfl,fun h=>⟨(s2 h).1,rfl⟩,rfl⟩⟩
   ·have e0:f 9=false:=by simpa using hi0
    obtain rfl:=Option.some.inj (show some _=some o from ho);have d1:f 6=true:=by simpa using hd ⟨6,.data⟩ (by simp) rfl
    have d2:f 1=true:=by simpa using hd ⟨1,.data⟩ (by simp) rfl
    have hx:=k0 d2;subst hx;have hp:=q0 d1;subst hp;have hbx:=(HM.out.box 0 (by omega) d1).2;have hc:w'.cell? ⟨b 0,0,none⟩=some (.slice none 0 0):=by rw[hbx.cell 0];simp[e0]
    have hz:=hbx.frozen 0;exact⟨left12 (upd f 9 true),zai f 9 (by omega) e0,zhi (w':=w'.setCell ⟨b 0,0,none⟩ (.slice (some ⟨r 0,0,none⟩) ns.length ns.length)) rfl rfl (by simp[execOp,go_sem,hc,hz]) ⟨upd f 9 true,r,b,x17,(.slice (some ⟨r 0,0,none⟩) ns.length ns.length),x19,x20,x21,x22,(.pointer (some ⟨b 0,0,none⟩)),p6,p7,rfl,rfl,hid (HM.out.fill 0 (by omega) d1),m0,k0,q0,fun _=>⟨d2,d1⟩,m1,k1,q1,s1,m2,k2,q2,s2,rfl⟩⟩
   ·have e0:f 10=false:=by simpa using hi0
    obtain rfl:=Option.some.inj (show some _=some o from ho);have d1:f 7=true:=by simpa using hd ⟨7,.data⟩ (by simp) rfl
    have d2:f 3=true:=by simpa using hd ⟨3,.data⟩ (by simp) rfl
    have hx:=k1 d2;subst hx;have hp:=q1 d1;subst hp;have hbx:=(HM.out.box 1 (by omega) d1).2;have hc:w'.cell? ⟨b 1,0,none⟩=some (.slice none 0 0):=by rw[hbx.cell 0];simp[e0]
    have hz:=hbx.frozen 0;exact⟨left12 (upd f 10 true),zai f 10 (by omega) e0,zhi (w':=w'.setCell ⟨b 1,0,none⟩ (.slice (some ⟨r 1,0,none⟩) ns.length ns.length)) rfl rfl (by simp[execOp,go_sem,hc,hz]) ⟨upd f 10 true,r,b,x17,x18,x19,(.slice (some ⟨r 1,0,none⟩) ns.length ns.length),x21,x22,p5,(.pointer (some ⟨b 1,0,none⟩)),p7,rfl,rfl,hid (HM.out.fill 1 (by omega) d1),m0,k0,q0,s0,m1,k1,q1,fun _=>⟨d2,d1⟩,m2,k2,q2,s2,rfl⟩⟩
   ·have e0:f 11=false:=by simpa using hi0
    obtain rfl:=Option.some.inj (show some _=some o from ho);have d1:f 8=true:=by simpa using hd ⟨8,.data⟩ (by simp) rfl
    have d2:f 5=true:=by simpa using hd ⟨5,.data⟩ (by simp) rfl
    have hx:=k2 d2;subst hx;have hp:=q2 d1;subst hp;have hbx:=(HM.out.box 2 (by omega) d1).2;have hc:w'.cell? ⟨b 2,0,none⟩=some (.slice none 0 0):=by rw[hbx.cell 0];simp[e0]
    have hz:=hbx.frozen 0;exact⟨left12 (upd f 11 true),zai f 11 (by omega) e0,zhi (w':=w'.setCell ⟨b 2,0,none⟩ (.slice (some ⟨r 2,0,none⟩) ns.length ns.length)) rfl rfl (by simp[execOp,go_sem,hc,hz]) ⟨upd f 11 true,r,b,x17,x18,x19,x20,x21,(.slice (some ⟨r 2,0,none⟩) ns.length ns.length),p5,p6,(.pointer (some ⟨b 2,0,none⟩)),rfl,rfl,hid (HM.out.fill 2 (by omega) d1),m0,k0,q0,s0,m1,k1,q1,s1,m2,k2,q2,fun _=>⟨d2,d1⟩,rfl⟩⟩
  case fin=>
   rintro m listed a' w' ⟨f,r,b,x17,x18,x19,x20,x21,x22,p5,p6,p7,rfl,rfl,HM,m0,k0,q0,s0,m1,k1,q1,s1,m2,k2,q2,s2,rfl⟩ hr;have nm:=fun i=>mt mem_ready.2 (List.eq_nil_iff_forall_not_mem.1 hr i)
   have t0:f 0=true:=by
    cases e:f 0 with
    |true=>rfl
    |false=>exact(nm 0 ⟨by simpa using e,_,rfl,by simp[Region.binds, *]⟩).elim
   have t2:f 2=true:=by
    cases e:f 2 with
    |true=>rfl
    |false=>exact(nm 2 ⟨by simpa using e,_,rfl,by simp[Region.binds, *]⟩).elim
   have t4:f 4=true:=by
    cases e:f 4 with
    |true=>rfl
    |false=>exact(nm 4 ⟨by simpa using e,_,rfl,by simp[Region.binds, *]⟩).elim
   have t6:f 6=true:=by
    cases e:f 6 with
    |true=>rfl
    |false=>exact(nm 6 ⟨by simpa using e,_,rfl,by simp[Region.binds, *]⟩).elim
   have t7:f 7=true:=by
    cases e:f 7 with
    |true=>rfl
    |false=>exact(nm 7 ⟨by simpa using e,_,rfl,by simp[Region.binds, *]⟩).elim
   have t8:f 8=true:=by
    cases e:f 8 with
    |true=>rfl
    |false=>exact(nm 8 ⟨by simpa using e,_,rfl,by simp[Region.binds, *]⟩).elim
   have t1:f 1=true:=by
    cases e:f 1 with
    |true=>rfl
    |false=>exact(nm 1 ⟨by simpa using e,_,rfl,by simp[Region.binds, *]⟩).elim
   have t3:f 3=true:=by
    cases e:f 3 with
    |true=>rfl
    |false=>exact(nm 3 ⟨by simpa using e,_,rfl,by simp[Region.binds, *]⟩).elim
   have t5:f 5=true:=by
    cases e:f 5 with
    |true=>rfl
    |false=>exact(nm 5 ⟨by simpa using e,_,rfl,by simp[Region.binds, *]⟩).elim
   have t9:f 9=true:=by
    cases e:f 9 with
    |true=>rfl
    |false=>exact(nm 9 ⟨by simpa using e,_,rfl,by simp[Region.binds, *]⟩).elim
   have t10:f 10=true:=by
    cases e:f 10 with
    |true=>rfl
    |false=>exact(nm 10 ⟨by simpa using e,_,rfl,by simp[Region.binds, *]⟩).elim
   have t11:f 11=true:=by
    cases e:f 11 with
    |true=>rfl
    |false=>exact(nm 11 ⟨by simpa using e,_,rfl,by simp[Region.binds, *]⟩).elim
   have hf:f=fun k=>f k:=rfl
   have hall:∀k,k<12->f k=true:=by
    intro k hk;obtain rfl|rfl|rfl|rfl|rfl|rfl|rfl|rfl|rfl|rfl|rfl|rfl:k=0\/k=1\/k=2\/k=3\/k=4\/k=5\/k=6\/k=7\/k=8\/k=9\/k=10\/k=11:=by omega
    all_goals assumption
   have hM:Mk3 ns.length w1 w' (fun _=>true) r b:=⟨HM.out.below,fun j hj _=>HM.out.row j hj (hall _ (by omega)),fun j hj _=>by
    have:=HM.out.box j hj (hall _ (by omega));rw[hall (9+j) (by omega)]at this;exact this,fun j k hj hk hne _ _=>HM.out.rr j k hj hk hne (hall _ (by omega)) (hall _ (by omega)),fun j k hj hk hne _ _=>HM.out.bb j k hj hk hne (hall _ (by omega)) (hall _ (by omega))⟩
   have hp5:=q0 t6;have hp6:=q1 t7;have hp7:=q2 t8;subst hp5;subst hp6;subst hp7;have HMM:=hid hM;clear hM hall hf nm hr HM m0 k0 q0 s0 m1 k1 q1 s1 m2 k2 q2 s2 t0 t1 t2 t3 t4 t5 t6 t7 t8 t9 t10 t11;go_wp2;go_meet;exact⟨r,b,rfl,rfl,rfl,HMM⟩
 case rest=>
  obtain⟨r,b,rfl,rfl,rfl,HM⟩:=hcut;obtain⟨m0,hm0⟩:∃m0:Nat->List Int,(fun k=>List.replicate k (-1:Int)++List.replicate (ns.length-k) 0)=m0:=⟨_,rfl⟩
  have HM0:Hid (∀k,k<ns.length->(m0 k).set k (-1)=m0 (k+1)/\(m0 k).length=ns.length/\(m0 k).getD k (-1)=0):=hid (fun k hk=>by
   rw[<-hm0];refine⟨?_,by simp;omega,?_⟩
   ·simp only;rw[List.set_append_right _ _ (by simp),List.length_replicate,Nat.sub_self,show ns.length-k=(ns.length-(k+1))+1 from by omega,List.replicate_succ,List.set_cons_zero,List.replicate_succ',List.append_assoc];rfl
   ·simp only;rw[List.getD_eq_getElem?_getD,List.getElem?_append_right (by simp),List.length_replicate,Nat.sub_self,List.getElem?_replicate,if_pos (by omega)];rfl)
  have HZ0:Hid (icells (List.replicate ns.length 0)=jcells (m0 0)):=hid (by rw[<-hm0];simp[icells,jcells]);have HZN:Hid (m0 ns.length=List.replicate ns.length (-1)):=hid (by rw[<-hm0];simp);clear hm0;obtain⟨r2,hr2⟩:=ex (r 2)
  obtain⟨b2,hb2⟩:=ex (b 2)
  have HB2:Hid (Blk wc b2 33 #[.slice (some ⟨r2,0,none⟩) ns.length ns.length]/\Blk wc r2 3 (jcells (m0 0))):=hid (by
   have h1:=(HM.out.box 2 (by omega) rfl).2;have h2:=(HM.out.row 2 (by omega) rfl).2;rw[HZ0.out]at h2;subst hr2;subst hb2;exact⟨by simpa using h1,h2⟩)
  have HRB:=hid (And.intro hr2 hb2);(try rw[hb2]);clear hr2 hb2;have c0:wc.cell? ⟨b2,0,none⟩=some (.slice (some ⟨r2,0,none⟩) ns.length ns.length):=HB2.out.1.cell 0;have hbr:b2≠r2:=HB2.out.1.ne_ HB2.out.2 (by decide);go_upto_region 4 with fail;clear c0;go_loopw [25] (fun s25 wr=>∃k:Nat,k<=ns.length/\s25=.int .i64 k/\Hid (KB r2 wc wr/\Blk wr r2 3 (jcells (m0 k)))) (fun s25 _=>ns.length-(intOf s25).toNat)
  case atStart=>exact⟨0,by omega,rfl,hid ⟨KB.refl _ _,HB2.out.2⟩⟩
  case round=>
   obtain⟨k,hk,rfl,HW⟩:=hrel;by_cases hlk:k<ns.length
   ·have hlkI:(k:Int)<(ns.length:Int):=by omega
    have c0:wr.cell? ⟨b2,0,none⟩=some (.slice (some ⟨r2,0,none⟩) ns.length ns.length):=(HW.out.1.blk HB2.out.1 hbr).cell 0;obtain⟨e1,e2,e3⟩:=HM0.out k hlk;have z0:wr.cell? ⟨r2,k,none⟩=some (.int .i64 0):=by rw[HW.out.2.cell,zbm (by omega),e3]
    have zf:∀i,wr.frozen? ⟨r2,i,none⟩=false:=HW.out.2.frozen;have HN2:Hid (KB r2 wc (wr.setCell ⟨r2,k,none⟩ (.int .i64 (-1)))/\Blk (wr.setCell ⟨r2,k,none⟩ (.int .i64 (-1))) r2 3 (jcells (m0 (k+1)))):=hid ⟨HW.out.1.set _ _,by
     rw[<-e1,<-zex];exact HW.out.2.set_ k _⟩
    clear e1 e2 e3 HW;go_wp2;go_roundw
    case rel=>exact⟨k+1,by omega,by go_num,HN2⟩
    case measure=>simp[intOf];omega
   ·have hlkI:¬((k:Int)<(ns.length:Int)):=by omega
    have HWN:Hid (KB r2 wc wr/\Blk wr r2 3 (jcells (List.replicate ns.length (-1)))):=hid (by
     have:=HW.out;rw[show k=ns.length from by omega,HZN.out]at this;exact this)
    clear HW;go_upto_region 13 with fail;have hgb:=HGB.out;have hw1s:w1.heap.size=gb+1:=by rw[<-HW1.out,<-hgb];simp
    have l1:Below w.heap.size w w1:=by rw[<-HW1.out];exact(Below.refl _ _).alloc (Nat.le_refl _) _
    have bg1:Blk w1 gb 24 #[.slice A ns.length c,.int .i64 root]:=by rw[<-HW1.out,<-hgb];exact Blk.new _ _ _
    obtain⟨hr2,hb2⟩:=HRB.out;obtain⟨x0,y0⟩:=HM.out.row 0 (by omega) rfl;obtain⟨x1,y1⟩:=HM.out.row 1 (by omega) rfl;obtain⟨x2,y2⟩:=HM.out.row 2 (by omega) rfl;obtain⟨_,z0⟩:=HM.out.box 0 (by omega) rfl;obtain⟨_,z1⟩:=HM.out.box 1 (by omega) rfl;have n01:=HM.out.rr 0 1 (by omega) (by omega) (by omega) rfl rfl;have n02:=HM.out.rr 0 2 (by omega) (by omega) (by omega) rfl rfl;have n12:=HM.out.rr 1 2 (by omega) (by omega) (by omega) rfl rfl;rw[hr2]at x2 y2 n02 n12;have bgc:=bg1.below HM.out.below (by omega);have hkb:=HWN.out.1;have lwr:Below w.heap.size w wr:=(l1.trans (HM.out.below.mono (by omega))).trans (hkb.below (by omega) (by have:=l1.size;have:=HM.out.below.size;omega));have hws:=lwr.size;obtain⟨z,hz⟩:=ex wr.heap.size
    rw[hz];obtain⟨W,hW⟩:=ex ((((((wr.alloc (.cells #[.slice none 0 0] 33)).alloc (.cells #[.slice none 0 0] 33)).alloc (.cells (bcells (List.replicate ns.length false)) 4)).alloc (.cells #[.slice (some ⟨z+1+1,0,none⟩) ns.length ns.length] 62)).alloc (.cells #[.int .i64 0] 3)).alloc (.cells #[(compL z gb (b 0) (b 1) b2 (r 0) (r 1) r2).fn] 88))
    obtain⟨hT,lW,hWs⟩:=zjn w.heap.size z gb (b 0) (b 1) b2 (r 0) (r 1) r2 A c root vs ns wr W hz hW
     (hkb.blk (by simpa using z0) (z0.ne_ y2 (by decide))) (hkb.blk (by simpa using z1) (z1.ne_ y2 (by decide))) (hkb.blk HB2.out.1 hbr) (hkb.blk y0 n02) (hkb.blk y1 n12) HWN.out.2
     (hkb.blk bgc (by omega)) n01 n02 n12 (by omega) (by omega) (by omega) (by omega) (H.out.below lwr)
    unfold compL TL.fn at hW;simp only at hW;rw[hW];have HT:=hid hT;have HLW:=hid (lwr.trans (lW.mono hws));have v0:W.cell? ⟨z+1+1+1+1+1,0,none⟩=some (compL z gb (b 0) (b 1) b2 (r 0) (r 1) r2).fn:=hT.xV.cell 0;unfold compL TL.fn at v0;simp only at v0;have g1:W.cell? ⟨gb,1,none⟩=some (.int .i64 root):=hT.xG.cell 1;have hC:=zjm (y:=compL z gb (b 0) (b 1) b2 (r 0) (r 1) r2) hr hl hks ns.length (tzero ns.length) root (fun _=>False) W _ _ hT (zf7 _) hroot (zb9 _ _) (fun g h=>h.elim) (Nat.le_trans List.countP_le_length (by simp));unfold TL.args compL at hC;simp only at hC;have HC:=hid hC;have HX:Hid (w.heap.size<=r2/\w.heap.size<=z+1+1+1+1+1+1):=hid ⟨by omega,by omega⟩;clear hW hT hC l1 bg1 y0 y1 y2 z0 z1 bgc hkb lwr lW;go_wp2_with fail;refine HC.out.mono ?_;rintro e w9 ⟨rfl,sv,zv,h9,f9⟩;obtain⟨Az,cz,hzv,_⟩:=h9.siz.form;subst hzv;have q1:w9.cell? ⟨b2,0,none⟩=some (.slice (some ⟨r2,0,none⟩) ns.length ns.length):=h9.xC.cell 0;have q2:w9.cell? ⟨z,0,none⟩=some (.slice Az (tvisit (Gr.succ ns) ns.length (tzero ns.length) root).sizes.length cz):=h9.bZ.cell 0;have HFIN:Hid (Below w.heap.size w w9/\Blk w9 r2 3 (jcells (tcomp (Gr.succ ns) ns.length root).inn)/\OwnRow intL w9 w.heap.size 3 (.slice Az (tcomp (Gr.succ ns) ns.length root).sizes.length cz) (tcomp (Gr.succ ns) ns.length root).sizes):=
     hid ⟨HLW.out.trans (HT.out.tfBelow f9),h9.rC,h9.siz.lower HX.out.2⟩
    clear v0 g1 h9 f9;go_upto_region 14 with fail;go_quiet (fail);go_wp2_with fail;refine bodyPost_ret (v:=.tuple #[.slice (some ⟨r2,0,none⟩) ns.length ns.length,.slice Az (tvisit (Gr.succ ns) ns.length (tzero ns.length) root).sizes.length cz]) (by simp[results,results65,go_sem]) rfl ?_;exact⟨r2,Az,cz,rfl,HX.out.1,below_drewN HFIN.out.1 _,HFIN.out.2.1.drewN _,HFIN.out.2.2.drewN _⟩
theorem infoSl:(prog.info? 33).map (fun i=>(i.zero,i.size,i.bytes))=some (some (.slice none 0 0),1,24):=by kernel_rfl
theorem zhj (n:Nat) (hn:n<=1073741824) (W:World):(Instr.makeSlice 87 (.int .i64 (n:Int)) (.int .i64 (n:Int))).run prog W=.ok (.slice (some ⟨W.heap.size,0,none⟩) n n) (W.alloc (.cells (List.replicate n (Value.slice none 0 0)).toArray 33)):=by
 obtain⟨i5,hi5,hz5,hs5,hby5⟩:=info_parts infoSl;have:=za7 (P:=prog) 87 33 i5 _ underlying87 hi5 hz5 .i64 .i64 n n (Nat.le_refl _) (by rw[hby5];omega) (by omega) W;rw[hs5]at this;simp only[Value.cells,za8]at this;exact this
structure Mems (w:World) (D rM:Nat) (mv:List Value) (ml:List (List Nat)):Prop where
 blk:Blk w rM 33 mv.toArray
 lo:rM<D
 hd:D<=w.heap.size
 len:mv.length=ml.length
 own:∀c (h1:c<mv.length) (h2:c<ml.length),OwnRow intL w D 3 mv[c] ml[c]
 ap:∀c c' (h1:c<mv.length) (h2:c'<mv.length),c≠c'->∀k,mv[c].ownBlock=some k->mv[c'].ownBlock≠some k
section
variable {w w' w2:World} {D rM:Nat} {mv:List Value} {ml:List (List Nat)}
theorem Mems.start {m:Nat} (hb:Blk w rM 33 (List.replicate m (Value.slice none 0 0)).toArray) (lo:rM<D) (hd:D<=w.heap.size):Mems w D rM (List.replicate m (.slice none 0 0)) (List.replicate m []):=
 ⟨hb,lo,hd,by simp,fun c h1 h2=>by simp only[List.getElem_replicate];exact OwnRow.nil,fun c c' h1 h2 _ k e=>by simp only[List.getElem_replicate]at e;cases e⟩
theorem Mems.later (h:Mems w D rM mv ml) (hb:Below w.heap.size w w'):Mems w' D rM mv ml:=
 ⟨h.blk.below hb h.blk.lt,h.lo,Nat.le_trans h.hd hb.size,h.len,fun c h1 h2=>(h.own c h1 h2).later hb,h.ap⟩
theorem Mems.alloc (h:Mems w D rM mv ml) (o:Obj):Mems (w.alloc o) D rM mv ml:=h.later ((Below.refl _ _).alloc (Nat.le_refl _) o)
theorem Mems.kb {g:Nat} (h:Mems w D rM mv ml) (hk:KB g w w') (hg:g<D) (hne:g≠rM):Mems w' D rM mv ml:=by
 refine⟨hk.blk h.blk (Ne.symm hne),h.lo,Nat.le_trans h.hd hk.size,h.len,fun c h1 h2=>?_,h.ap⟩;have ho:=h.own c h1 h2;have hlt:=ho.lt;refine⟨ho.1,ho.2.imp id ?_⟩;rintro⟨g',cap,cur,hv,hge,hh,r⟩;have e:mv[c].ownBlock=some g':=by rw[hv];rfl
 have:=hlt g' e;exact⟨g',cap,cur,hv,hge,(hk.block g' (by omega) (by omega)).trans hh,r⟩
theorem Mems.grown (h:Mems w D rM mv ml) {c:Nat} (hc:c<mv.length) {v2:Value} {l:List Nat} (ho:OwnRow intL w2 D 3 v2 l) (hg:w.grownBy w2 (mv[c]).ownBlock) (hat:v2.ownBlock=(mv[c]).ownBlock\/v2.ownBlock=some w.heap.size):
 Mems (w2.setCell ⟨rM,c,none⟩ v2) D rM (mv.set c v2) (ml.set c l):=by
 have hcl:c<ml.length:=by rw[<-h.len];exact hc
 have hlo:=h.lo;have hsz:=hg.size;have hb2:Blk w2 rM 33 mv.toArray:=h.blk.grown hg (fun e=>by have:=((h.own c hc hcl).lt rM e.symm).1;omega);have hap:∀c' (h1:c'<mv.length),c'≠c->∀k,v2.ownBlock=some k->mv[c'].ownBlock≠some k:=by
  intro c' h1 hne k e e2;rcases hat with h3|h3
  ·exact h.ap c' c h1 hc hne k e2 (h3.symm.trans e)
  ·have:=((h.own c' h1 (by rw[<-h.len];exact h1)).lt k e2).2;rw[h3]at e;injection e with e;omega
 refine⟨?_,hlo,?_,by simp[h.len],?_,?_⟩
 ·have:=hb2.set_ c v2;simpa using this
 ·have:=h.hd;simp[World.setCell];omega
 ·intro c' h1 h2;simp only[List.length_set]at h1 h2;by_cases hcc:c'=c
  ·subst hcc;simp only[List.getElem_set_self];exact ho.setCell (p:=⟨rM,c',none⟩) (fun e=>by have:=(ho.lt _ e).1;simp only at this;omega) _
  ·simp only[List.getElem_set_ne (Ne.symm hcc)];have h3:=h.own c' h1 h2;have h4:=h3.off hg (fun k e e2=>h.ap c' c h1 hc hcc k e e2.symm);exact h4.setCell (p:=⟨rM,c,none⟩) (fun e=>by have:=(h3.lt _ e).1;simp only at this;omega) _
 ·intro c1 c2 h1 h2 hne k e;simp only[List.length_set]at h1 h2;by_cases h3:c1=c
  ·grind
  ·simp only[List.getElem_set_ne (Ne.symm h3)]at e;by_cases h4:c2=c
   ·grind
   ·simp only[List.getElem_set_ne (Ne.symm h4)];exact h.ap c1 c2 h1 h2 hne k e
theorem Mems.grownKB {w4:World} (h:Mems w D rM mv ml) (hk:KB rM w4 w) (hD:w4.heap.size=D) {c:Nat} (hc:c<mv.length) (v2:Value) (hg:w.grownBy w2 (mv[c]).ownBlock):
 KB rM w4 (w2.setCell ⟨rM,c,none⟩ v2):=by
 have hcl:c<ml.length:=by rw[<-h.len];exact hc
 have hb:Below D w w2:=(h.own c hc hcl).grown_below hg h.hd;refine KB.set ⟨hb.os.trans hk.os,hb.tape.trans hk.tape,hb.output.trans hk.output,Nat.le_trans hk.size hb.size,fun k h1 h2=>(hb.block k (by omega)).trans (hk.block k h1 h2)⟩ _ _
theorem Mems.at_ (h:Mems w D rM mv ml) {c:Nat} (hc:c<ml.length):∃A cap,mv[c]? =some (.slice A (ml[c]).length cap)/\w.cell? ⟨rM,c,none⟩=some (.slice A (ml[c]).length cap)/\RowAt intL w w.heap.size A ml[c]:=by
 have hcv:c<mv.length:=by rw[h.len];exact hc
 obtain⟨A,cap,hv,hr⟩:=(h.own c hcv hc).form;refine⟨A,cap,by rw[List.getElem?_eq_getElem hcv,hv],?_,hr⟩;rw[h.blk.cell];simp[List.getElem?_eq_getElem hcv,hv]
theorem Mems.row (h:Mems w D rM mv ml) {c:Nat} (hc:c<ml.length) {A:Option Addr} {n cap:Nat} (e:mv[c]? =some (.slice A n cap)):RowAt intL w w.heap.size A ml[c]:=by
 obtain⟨A',cap',h1,_,h2⟩:=h.at_ hc;rw[h1]at e;injection e with e
 injection e with e _ _
 subst e;exact h2
end
theorem zga (inn:Nat->Int) (i c:Nat):members inn (i+1) c=if inn i=(c:Int)then members inn i c++[i]else members inn i c:=by
 unfold members;rw[List.range_succ,List.filter_append];by_cases h:inn i=(c:Int)<;>simp[h]
def memsL (inn:Nat->Int) (i m:Nat):List (List Nat):=(List.range m).map (fun c=>members inn i c)
theorem zby (inn:Nat->Int) (i m:Nat):(memsL inn i m).length=m:=by simp[memsL]
theorem zjp (inn:Nat->Int) (m:Nat):memsL inn 0 m=List.replicate m []:=by
 unfold memsL;apply List.ext_getElem
 ·simp
 ·intro i h1 h2;simp[members]
theorem zbz (inn:Nat->Int) (i m c:Nat) (h:c<(memsL inn i m).length):(memsL inn i m)[c]=members inn i c:=by simp[memsL]
theorem zjq (inn:Nat->Int) (i m c:Nat) (h:inn i=(c:Int)):memsL inn (i+1) m=(memsL inn i m).set c (members inn i c++[i]):=by
 apply List.ext_getElem
 ·simp[memsL]
 ·intro k h1 h2;rw[zbz,zga];by_cases hk:k=c
  ·grind
  ·rw[List.getElem_set_ne (Ne.symm hk),if_neg (by omega),zbz]
theorem zd4 (inn:Nat->Int) (i c:Nat):(members inn i c).length<=i:=by
 unfold members;exact Nat.le_trans (List.length_filter_le _ _) (by simp)
theorem zjr (inn:Nat->Int) (n c:Nat):∀x∈members inn n c,x<n:=by
 intro x hx;unfold members at hx;exact List.mem_range.1 (List.mem_filter.1 hx).1
def Sml (M:Nat) (p:List Nat×Bool):Prop:=∀k,p.1.getD k 0<=M
theorem Sml.step {M:Nat} {inn:Nat->Int} {c:Nat} {p:List Nat×Bool} (h:Sml M p) (x:Nat):Sml M (dstep inn c p x):=by
 unfold dstep;split
 ·exact h
 ·intro k;show(p.1.set c _).getD k 0<=M;by_cases hk:c=k
  ·subst hk;by_cases hl:c<p.1.length
   ·rw[za6 _ _ _ _ hl];have:=h c;have:=h (inn x).toNat;omega
   ·grind
  ·rw[Gr.getD_set_ne _ _ _ _ _ hk];exact h k
theorem Sml.fold {M:Nat} {inn:Nat->Int} {c:Nat} (L:List Nat):∀{p:List Nat×Bool},Sml M p->Sml M (L.foldl (dstep inn c) p):=by
 induction L with
 |nil=>intro p h;exact h
 |cons x L ih=>intro p h;rw[List.foldl_cons];exact ih (h.step x)
theorem Sml.foldM {M:Nat} {inn:Nat->Int} {c:Nat} (sc:Nat->List Nat) (L:List Nat):∀{p:List Nat×Bool},Sml M p->Sml M (L.foldl (fun p i=>(sc i).foldl (dstep inn c) p) p):=by
 induction L with
 |nil=>intro p h;exact h
 |cons x L ih=>intro p h;rw[List.foldl_cons];exact ih (h.fold _)
theorem zle (inn:Nat->Int) (c:Nat) (p:List Nat×Bool) (x:Nat):(dstep inn c p x).1.length=p.1.length:=by
 unfold dstep;split<;>simp
theorem zd5 (inn:Nat->Int) (c:Nat) (L:List Nat):∀p:List Nat×Bool,(L.foldl (dstep inn c) p).1.length=p.1.length:=by
 induction L with
 |nil=>intro p;rfl
 |cons x L ih=>intro p;rw[List.foldl_cons,ih,zle]
theorem zc7 (inn:Nat->Int) (c:Nat) (sc:Nat->List Nat) (L:List Nat):∀p:List Nat×Bool,(L.foldl (fun p i=>(sc i).foldl (dstep inn c) p) p).1.length=p.1.length:=by
 induction L with
 |nil=>intro p;rfl
 |cons x L ih=>intro p;rw[List.foldl_cons,ih,zd5]
theorem zlf (sc:Nat->List Nat) (inn:Nat->Int) (n:Nat) (sizes:List Nat) (p:List Nat×Bool) (c:Nat):(dcomp sc inn n sizes p c).1.length=p.1.length:=by
 unfold dcomp;simp[zc7]
theorem zey (sc:Nat->List Nat) (inn:Nat->Int) (n:Nat) (sizes:List Nat) (L:List Nat):∀p:List Nat×Bool,(L.foldl (dcomp sc inn n sizes) p).1.length=p.1.length:=by
 induction L with
 |nil=>intro p;rfl
 |cons x L ih=>intro p;rw[List.foldl_cons,ih,zlf]
theorem Sml.comp {M N:Nat} {sc:Nat->List Nat} {inn:Nat->Int} {n:Nat} {sizes:List Nat} {p:List Nat×Bool} (h:Sml M p) (c:Nat) (hN:∀k,sizes.getD k 0<=N):Sml (M+N) (dcomp sc inn n sizes p c):=by
 unfold dcomp;have h1:=h.foldM (inn:=inn) (c:=c) sc (members inn n c);obtain⟨q,hq⟩:=ex ((members inn n c).foldl (fun p i=>(sc i).foldl (dstep inn c) p) p)
 rw[hq]at h1;rw[hq];intro k;show(q.1.set c _).getD k 0<=_;have:=h1 k;by_cases hk:c=k
 ·grind
 ·grind
theorem Sml.comps {N:Nat} {sc:Nat->List Nat} {inn:Nat->Int} {n:Nat} {sizes:List Nat} {p:List Nat×Bool} (h:Sml 0 p) (hN:∀k,sizes.getD k 0<=N) (k:Nat):Sml (k*N) ((List.range k).foldl (dcomp sc inn n sizes) p):=by
 induction k with
 |zero=>simpa using h
 |succ k ih=>
  rw[List.range_succ,List.foldl_append,Nat.add_mul,Nat.one_mul];exact ih.comp k hN
theorem zf3 (s:Gr.Str) (a:Nat):(s.drop a).dropWhile Gr.dig=s.drop (a+(rdg s a).length):=by
 have h:=List.takeWhile_append_dropWhile (p:=Gr.dig) (l:=s.drop a);have h2:=congrArg (List.drop (rdg s a).length) h;unfold rdg at h2 ⊢;rw[List.drop_left,List.drop_drop]at h2;exact h2
theorem znn (s:Gr.Str) (a:Nat) (h:a<=s.length):a+(rdg s a).length<=s.length:=by
 have:(rdg s a).length<=(s.drop a).length:=(List.takeWhile_sublist Gr.dig).length_le;rw[List.length_drop]at this;omega
theorem zbn (s:Gr.Str) (k:Nat):(s.drop k).head?=s[k]? :=by rw[List.head?_drop]
theorem zel (s:Gr.Str) (k:Nat):(s.drop k).tail=s.drop (k+1):=by rw[List.tail_drop]
theorem zjb (s:Gr.Str) (a:Nat) (h:0<(rdg s a).length):(rdg s a).head?=s[a]? :=by
 rw[<-zbn];unfold rdg at h ⊢;cases hd:s.drop a with
 |nil=>rw[hd]at h;simp at h
 |cons c l=>
  rw[hd]at h;rw[List.takeWhile_cons]at h ⊢;split
  ·rfl
  ·grind
theorem zr7 (sat:Nat) (neg:Bool) (s:Gr.Str) (a:Nat):numT sat neg (s.drop a)=if rdg s a=[]\/(s[a]? =some 48/\1<(rdg s a).length)then none
 else if s[a+(rdg s a).length]? =some 46 then
  if rdg s (a+(rdg s a).length+1)=[]then none else expS sat neg (vals (rdg s a)++vals (rdg s (a+(rdg s a).length+1))) (-((rdg s (a+(rdg s a).length+1)).length:Int)) (s.drop (a+(rdg s a).length+1+(rdg s (a+(rdg s a).length+1)).length))
 else expS sat neg (vals (rdg s a)) 0 (s.drop (a+(rdg s a).length)):=by
 unfold numT;have e1:(s.drop a).takeWhile Gr.dig=rdg s a:=rfl;rw[e1,zf3,zbn,zel,zf3];have e2:(s.drop (a+(rdg s a).length+1)).takeWhile Gr.dig=rdg s (a+(rdg s a).length+1):=rfl;rw[e2];have e3:vals (rdg s a++rdg s (a+(rdg s a).length+1))=vals (rdg s a)++vals (rdg s (a+(rdg s a).length+1)):=by simp[vals]
 rw[e3];by_cases h0:rdg s a=[]
 ·grind
 ·rw[zjb s a (List.length_pos_iff.2 h0)]
theorem zr8 (sat:Nat) (neg:Bool) (d:List Nat) (e:Int) (s:Gr.Str) (t:Nat) (ht:t<=s.length) (h1:s[t]? ≠some 101) (h2:s[t]? ≠some 69):expS sat neg d e (s.drop t)=if t=s.length then some (norm neg d e)else none:=by
 unfold expS;rw[zbn];by_cases h:t=s.length
 ·grind
 ·rw[if_neg (by intro e;have:=congrArg List.length e;simp at this;omega),if_neg (fun e=>e.elim h1 h2),if_neg h]
theorem zh6 (s:Gr.Str) (b:Nat) (hb:b<=s.length):(s.drop b).all Gr.dig=true↔b+(rdg s b).length=s.length:=by
 constructor
 ·intro h;have:rdg s b=s.drop b:=by
   unfold rdg;have:=List.takeWhile_append_of_pos (p:=Gr.dig) (l₁:=s.drop b) (l₂:=[]) (by simpa using h);simpa using this
  rw[this,List.length_drop];omega
 ·intro h;have h1:=List.takeWhile_append_dropWhile (p:=Gr.dig) (l:=s.drop b);rw[zf3,show s.drop (b+(rdg s b).length)=[]from List.drop_eq_nil_of_le (by omega),List.append_nil]at h1;rw[<-h1];exact zdi _
theorem zno (s:Gr.Str) (b:Nat) (h:b+(rdg s b).length=s.length):rdg s b=s.drop b:=by
 have h1:=List.takeWhile_append_dropWhile (p:=Gr.dig) (l:=s.drop b);rw[zf3,show s.drop (b+(rdg s b).length)=[]from List.drop_eq_nil_of_le (by omega),List.append_nil]at h1;exact h1
theorem zr9 (sat:Nat) (neg:Bool) (d:List Nat) (e:Int) (s:Gr.Str) (t b:Nat) (minus:Bool) (ht:t<s.length) (h1:s[t]? =some 101\/s[t]? =some 69) (hb:b=if s[t+1]? =some 45\/s[t+1]? =some 43 then t+2 else t+1) (hm:minus=decide (s[t+1]? =some 45)) (hbl:b<=s.length):
 expS sat neg d e (s.drop t)=if rdg s b=[]then none else if b+(rdg s b).length=s.length then some (norm neg d (e+(if minus=true then -1 else 1)*(satv sat (rdg s b):Int)))else none:=by
 unfold expS;rw[if_neg (by intro e;have:=congrArg List.length e;simp at this;omega),zbn,if_pos h1,zel];have hT:expT (s.drop (t+1))=s.drop b:=by
  unfold expT;rw[zbn,zel,hb];split<;>rfl
 have hV:expV sat (s.drop (t+1))=(if minus=true then -1 else 1)*(satv sat (s.drop b):Int):=by
  unfold expV;rw[hT,zbn,hm];by_cases h:s[t+1]? =some 45
  ·grind
  ·grind
 rw[hT,hV];by_cases he:rdg s b=[]
 ·rw[if_pos he,if_pos];rcases Nat.lt_or_ge b s.length with h|h
  ·right;rw[Bool.eq_false_iff];intro hall;have:=(zh6 s b hbl).1 hall;rw[he]at this;simp at this;omega
  ·grind
 ·rw[if_neg he];by_cases hall:b+(rdg s b).length=s.length
  ·rw[if_pos hall,if_neg,zno s b hall];rintro(h|h)
   ·rw[<-zno s b hall]at h;exact he h
   ·rw[(zh6 s b hbl).2 hall]at h;cases h
  ·rw[if_neg hall,if_pos];right;rw[Bool.eq_false_iff];exact fun h=>hall ((zh6 s b hbl).1 h)
end Go.Proofs.YtoigpackhninoaaGreatDoor

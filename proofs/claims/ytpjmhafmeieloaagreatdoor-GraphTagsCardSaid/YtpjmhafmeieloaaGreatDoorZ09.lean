import Derived.Test.YtpjmhafmeieloaaGreatDoorZ08
import Derived.Test.YtpjmhafmeieloaaGreatDoorGrInsR12
import Derived.Test.YtpjmhafmeieloaaGreatDoorZ18
namespace Go.Proofs.YtpjmhafmeieloaaGreatDoor
open Go.RowKit
section
variable {P:Program} {md:Region.Mode} {ops:Array Oper} {Q:Exit->Act->World->Prop}
theorem zl9 (Inv:Nat->Array Bool->Act->World->Prop)
 (hstep:∀m listed a w i,Inv m listed a w->i∈Region.ready md ops listed->∃m',m=m'+1/\wpOp P ops Q i (fun a' w'=>Inv m' (listed.setIfInBounds i true) a' w') a w)
 (hend:∀m listed a w,Inv m listed a w->Region.ready md ops listed=[]->Q .normal a w):
 ∀fuel listed a w,Inv fuel listed a w->wpAny P md ops Q fuel listed a w:=by
 intro fuel
 induction fuel with
 |zero=>
  intro listed a w h;have b:Region.ready md ops listed=[]:=List.eq_nil_iff_forall_not_mem.2 (fun i c=>by obtain⟨m',e,_⟩:=hstep _ _ _ _ i h c;omega);exact⟨b,hend _ _ _ _ h b⟩
 |succ fuel ih=>
  intro listed a w h;refine⟨fun b=>hend _ _ _ _ h b,fun i c=>?_⟩;obtain⟨m',e,d⟩:=hstep _ _ _ _ i h c;obtain rfl:m'=fuel:=by omega
  exact wpOp_mono (fun a w h=>ih _ _ _ h) d
variable {i:Nat} {o:Oper} {K:Act->World->Prop} {a:Act} {w w':World}
theorem zbm (v:Value) (ho:ops[i]? =some o) (hg:o.guard=none) (hrun:(execOp a.eval o).run P w=.ok (.value v) w') (hK:K (a.put o.dst v) w'):wpOp P ops Q i K a w:=by
 unfold wpOp;rw[ho];simp only[Region.wanted,hg,if_true];left;unfold Oper.wp;rw[hrun];exact hK
theorem zjj (ho:ops[i]? =some o) (hg:o.guard=none) (hrun:(execOp a.eval o).run P w=.ok .skip w') (hK:K (a.put o.dst undef) w'):wpOp P ops Q i K a w:=by
 unfold wpOp;rw[ho];simp only[Region.wanted,hg,if_true];left;unfold Oper.wp;rw[hrun];exact hK
end
open Gr
open _root_.Go.Proofs.Tryz
open _root_.Go.Lib (hid)
set_option maxRecDepth 100000
set_option maxHeartbeats 16000000
structure Mk3 (n:Nat) (w1 W:World) (f:Nat->Bool) (r b:Nat->Nat):Prop where
 below:Below w1.heap.size w1 W
 row:∀j,j<3->f (2*j+1)=true->w1.heap.size<=r j/\Blk W (r j) 3 (icells (List.replicate n 0))
 box:∀j,j<3->f (6+j)=true->w1.heap.size<=b j/\Blk W (b j) 34 #[if f (9+j)then .slice (some ⟨r j,0,none⟩) n n else .slice none 0 0]
 rr:∀j k,j<3->k<3->j≠k->f (2*j+1)=true->f (2*k+1)=true->r j≠r k
 bb:∀j k,j<3->k<3->j≠k->f (6+j)=true->f (6+k)=true->b j≠b k
def upd {α:Type} (f:Nat->α) (i:Nat) (x:α):Nat->α:=fun k=>if k=i then x else f k
theorem Mk3.start (n:Nat) (w1:World) (r b:Nat->Nat):Mk3 n w1 w1.drew (fun _=>false) r b:=
 ⟨below_drewN (Below.refl _ _) 1,fun _ _ h=>by(cases h),fun _ _ h=>by(cases h),fun _ _ _ _ _ h=>by(cases h),fun _ _ _ _ _ h=>by(cases h)⟩
variable {n:Nat} {w1 W:World} {f:Nat->Bool} {r b:Nat->Nat}
theorem Mk3.mark (h:Mk3 n w1 W f r b) (i:Nat) (hi:i=0\/i=2\/i=4):Mk3 n w1 W (upd f i true) r b:=by
 have e:∀k,k≠i->upd f i true k=f k:=fun k c=>by unfold upd;rw[if_neg c]
 refine⟨h.below,fun j a=>?_,fun j a=>?_,fun j k a c=>?_,fun j k a c=>?_⟩
 .rw[e _ (by omega)];exact h.row j a
 .rw[e _ (by omega),e _ (by omega)];exact h.box j a
 .rw[e _ (by omega),e _ (by omega)];exact h.rr j k a c
 .rw[e _ (by omega),e _ (by omega)];exact h.bb j k a c
theorem Mk3.make (h:Mk3 n w1 W f r b) (j0:Nat) (hj0:j0<3) (hs:f (9+j0)=false):Mk3 n w1 (W.alloc (.cells (icells (List.replicate n 0)) 3)) (upd f (2*j0+1) true) (upd r j0 W.heap.size) b:=by
 have e:∀k,k≠2*j0+1->upd f (2*j0+1) true k=f k:=fun k d=>by unfold upd;rw[if_neg d]
 have i:∀k,k≠j0->upd r j0 W.heap.size k=r k:=fun k d=>by unfold upd;rw[if_neg d]
 have g:upd r j0 W.heap.size j0=W.heap.size:=by unfold upd;rw[if_pos rfl]
 have m:=h.below.size;refine⟨h.below.alloc m _,fun j c a=>?_,fun j c=>?_,fun j k c d p a o=>?_,fun j k c d=>?_⟩
 .by_cases hjj:j=j0
  .subst hjj;rw[g];exact⟨m,Blk.new _ _ _⟩
  .rw[e _ (by omega)]at a;rw[i _ hjj];obtain⟨q,l⟩:=h.row j c a;exact⟨q,l.alloc _⟩
 .rw[e _ (by omega),e _ (by omega)];intro a;obtain⟨q,l⟩:=h.box j c a;refine⟨q,?_⟩;by_cases hjj:j=j0
  .subst hjj;rw[hs]at l ⊢;exact l.alloc _
  .rw[i _ hjj];exact l.alloc _
 .by_cases hjj:j=j0
  .subst hjj;rw[g,i k (by omega)];rw[e _ (by omega)]at o;have:=(h.row k d o).2.lt;omega
  .rw[e _ (by omega)]at a;rw[i j hjj];by_cases hkk:k=j0
   .subst hkk;rw[g];have:=(h.row j c a).2.lt;omega
   .rw[e _ (by omega)]at o;rw[i k hkk];exact h.rr j k c d p a o
 .rw[e _ (by omega),e _ (by omega)];exact h.bb j k c d
theorem Mk3.boxed (h:Mk3 n w1 W f r b) (j0:Nat) (hj0:j0<3) (hs:f (9+j0)=false):Mk3 n w1 (W.alloc (.cells #[.slice none 0 0] 34)) (upd f (6+j0) true) r (upd b j0 W.heap.size):=by
 have e:∀k,k≠6+j0->upd f (6+j0) true k=f k:=fun k d=>by unfold upd;rw[if_neg d]
 have l:∀k,k≠j0->upd b j0 W.heap.size k=b k:=fun k d=>by unfold upd;rw[if_neg d]
 have g:upd b j0 W.heap.size j0=W.heap.size:=by unfold upd;rw[if_pos rfl]
 have i:=h.below.size;refine⟨h.below.alloc i _,fun j c=>?_,fun j c a=>?_,fun j k c d=>?_,fun j k c d o a m=>?_⟩
 .rw[e _ (by omega)];intro a;obtain⟨p,q⟩:=h.row j c a;exact⟨p,q.alloc _⟩
 .rw[e (9+j) (by omega)];by_cases hjj:j=j0
  .subst hjj;rw[g,hs];exact⟨i,Blk.new _ _ _⟩
  .rw[e _ (by omega)]at a;rw[l _ hjj];obtain⟨p,q⟩:=h.box j c a;exact⟨p,q.alloc _⟩
 .rw[e _ (by omega),e _ (by omega)];exact h.rr j k c d
 .by_cases hjj:j=j0
  .subst hjj;rw[g,l k (by omega)];rw[e _ (by omega)]at m;have:=(h.box k d m).2.lt;omega
  .rw[e _ (by omega)]at a;rw[l j hjj];by_cases hkk:k=j0
   .subst hkk;rw[g];have:=(h.box j c a).2.lt;omega
   .rw[e _ (by omega)]at m;rw[l k hkk];exact h.bb j k c d o a m
theorem Mk3.fill (h:Mk3 n w1 W f r b) (j0:Nat) (hj0:j0<3) (hb:f (6+j0)=true):Mk3 n w1 (W.setCell ⟨b j0,0,none⟩ (.slice (some ⟨r j0,0,none⟩) n n)) (upd f (9+j0) true) r b:=by
 have e:∀k,k≠9+j0->upd f (9+j0) true k=f k:=fun k d=>by unfold upd;rw[if_neg d]
 have o:upd f (9+j0) true (9+j0)=true:=by unfold upd;rw[if_pos rfl]
 obtain⟨m,l⟩:=h.box j0 hj0 hb;refine⟨h.below.setCell (p:=⟨b j0,0,none⟩) m _,fun j a=>?_,fun j a c=>?_,fun j k a d=>?_,fun j k a d=>?_⟩
 .rw[e _ (by omega)];intro c;obtain⟨i,g⟩:=h.row j a c;exact⟨i,g.far (g.ne_ l (by decide)) _⟩
 .rw[e (6+j) (by omega)]at c;obtain⟨i,g⟩:=h.box j a c;refine⟨i,?_⟩;by_cases hjj:j=j0
  .subst hjj;rw[o,if_pos rfl];exact l.set_ 0 _
  .rw[e (9+j) (by omega)];exact g.far (h.bb j j0 a hj0 hjj c hb) _
 .rw[e _ (by omega),e _ (by omega)];exact h.rr j k a d
 .rw[e _ (by omega),e _ (by omega)];exact h.bb j k a d
def left12 (f:Nat->Bool):Nat:=cond (f 0) 0 1+cond (f 1) 0 1+cond (f 2) 0 1+cond (f 3) 0 1+cond (f 4) 0 1+cond (f 5) 0 1+cond (f 6) 0 1+cond (f 7) 0 1+cond (f 8) 0 1+cond (f 9) 0 1+cond (f 10) 0 1+cond (f 11) 0 1
theorem zap (f:Nat->Bool) (i:Nat) (hi:i<12) (h:f i=false):left12 f=left12 (upd f i true)+1:=by
 unfold left12 upd;obtain rfl|rfl|rfl|rfl|rfl|rfl|rfl|rfl|rfl|rfl|rfl|rfl:i=0\/i=1\/i=2\/i=3\/i=4\/i=5\/i=6\/i=7\/i=8\/i=9\/i=10\/i=11:=by omega
 all_goals
  simp only[h,if_true,cond_true,cond_false];simp
  try omega
theorem zfw (A:Option Addr) (c root:Nat) (vs:List NV) (ns:List Gr.Nd) (hr:Refs ns) (hl:ns.length<=1073741823) (hks:∀n∈ns,n.keys.length<=1073741823/\n.items.length<=1073741823) (hroot:root<ns.length)
 (w:World) (h:GAt w w.heap.size A vs ns):
 Calls prog 41 #[.agg #[.slice A ns.length c,.int .i64 root]] w fun e w'=>∃rC Az cz,e=.returned (.tuple #[.slice (some ⟨rC,0,none⟩) ns.length ns.length,.slice Az (tcomp (Gr.succ ns) ns.length root).sizes.length cz])/\w.heap.size<=rC/\Below w.heap.size w w'/\
  Blk w' rC 3 (jcells (tcomp (Gr.succ ns) ns.length root).inn)/\OwnRow intL w' w.heap.size 3 (.slice Az (tcomp (Gr.succ ns) ns.length root).sizes.length cz) (tcomp (Gr.succ ns) ns.length root).sizes:=by
 have H:=hid h;have ae:=fun W=>zb0 ns.length (by omega) W
 have hmb:=fun W=>zb1 ns.length (by omega) W
 have hrI:(root:Int)<(ns.length:Int):=by omega
 clear h;go_enter func41,ntmps41;go_upto_region 2 with fail;obtain⟨w1,af⟩:=ex (w.alloc (.cells #[.slice A ns.length c,.int .i64 root] 24))
 (try rw[af]);have ac:=hid af;obtain⟨Z,N⟩:=ex w.heap.size
 (try rw[N]);have ax:=hid N;clear af N;go_cut [5,6,7] (fun s5 s6 s7 wx=>∃r b:Nat->Nat,s5=.pointer (some ⟨b 0,0,none⟩)/\s6=.pointer (some ⟨b 1,0,none⟩)/\s7=.pointer (some ⟨b 2,0,none⟩)/\Hid (Mk3 ns.length w1 wx (fun _=>true) r b))
 case first=>
  refine wp_region_any (by kernel_rfl) ?_;refine zl9 (fun m t a' w'=>∃(f:Nat->Bool) (r b:Nat->Nat) (x17 x18 x19 x20 x21 x22 p5 p6 p7:Value),t=#[f 0,f 1,f 2,f 3,f 4,f 5,f 6,f 7,f 8,f 9,f 10,f 11]/\m=left12 f/\Hid (Mk3 ns.length w1 w' f r b)/\(f 0=true->x17=.int .i64 ns.length)/\(f 1=true->x18=.slice (some ⟨r 0,0,none⟩) ns.length ns.length)/\(f 6=true->p5=.pointer (some ⟨b 0,0,none⟩))/\(f 9=true->f 1=true/\f 6=true)/\(f 2=true->x19=.int .i64 ns.length)/\(f 3=true->x20=.slice (some ⟨r 1,0,none⟩) ns.length ns.length)/\(f 7=true->p6=.pointer (some ⟨b 1,0,none⟩))/\(f 10=true->f 3=true/\f 7=true)/\(f 4=true->x21=.int .i64 ns.length)/\(f 5=true->x22=.slice (some ⟨r 2,0,none⟩) ns.length ns.length)/\(f 8=true->p7=.pointer (some ⟨b 2,0,none⟩))/\(f 11=true->f 5=true/\f 8=true)/\a'={tmps:=List.toArray (.agg #[.slice A ns.length c,.int .i64 root]::.pointer (some ⟨Z,0,none⟩)::.slice none 0 0::.slice none 0 0::.int .i64 ns.length::p5::p6::p7::undef::undef::undef::undef::undef::undef::.pointer (some ⟨Z,0,none⟩)::.slice A ns.length c::.int .i64 ns.length::x17::x18::x19::x20::x21::x22::undef::undef::undef::undef::undef::undef::undef::undef::undef::undef::undef::undef::undef::undef::undef::undef::undef::undef::[]),defers:=[]}) ?step ?fin _ _ _ _ ?start
  case start=>
   exact⟨fun _=>false,fun _=>0,fun _=>0,undef,undef,undef,undef,undef,undef,undef,undef,undef,rfl,rfl,hid (Mk3.start _ _ _ _),fun h=>(by cases h),fun h=>(by cases h),fun h=>(by cases h),fun h=>(by cases h),fun h=>(by cases h),fun h=>(by cases h),fun h=>(by cases h),fun h=>(by cases h),fun h=>(by cases h),fun h=>(by cases h),fun h=>(by cases h),fun h=>(by cases h),rfl⟩
  case step=>
   rintro m t a' w' i ⟨f,r,b,x17,x18,x19,x20,x21,x22,p5,p6,p7,rfl,rfl,d,l,G,D,s0,F,K,B,s1,J,E,C,s2,rfl⟩ hi;rw[mem_ready]at hi;obtain⟨q,o,L,X⟩:=hi;have hi12:i<12:=(Array.getElem?_eq_some_iff.1 L).1;obtain rfl|rfl|rfl|rfl|rfl|rfl|rfl|rfl|rfl|rfl|rfl|rfl:i=0\/i=1\/i=2\/i=3\/i=4\/i=5\/i=6\/i=7\/i=8\/i=9\/i=10\/i=11:=by omega
   .have a:f 0=false:=by simpa using q
    obtain rfl:=Option.some.inj (show some _=some o from L);exact⟨left12 (upd f 0 true),zap f 0 (by omega) a,zbm (.int .i64 ns.length) rfl rfl (by simp[execOp,go_sem]) ⟨upd f 0 true,r,b,.int .i64 ns.length,x18,x19,x20,x21,x22,p5,p6,p7,rfl,rfl,hid (d.out.mark 0 (by omega)),fun _=>rfl,G,D,s0,F,K,B,s1,J,E,C,s2,rfl⟩⟩
   .have a:f 1=false:=by simpa using q
    obtain rfl:=Option.some.inj (show some _=some o from L);have d0:f 0=true:=by simpa using X ⟨0,.data⟩ (by simp) rfl
    have T:=l d0;subst T;have R:f 9=false:=by cases hq:f 9 with|false=>rfl|true=>rw[(s0 hq).1]at a;cases a
    exact⟨left12 (upd f 1 true),zap f 1 (by omega) a,zbm (.slice (some ⟨w'.heap.size,0,none⟩) ns.length ns.length) rfl rfl (by simp[execOp,go_sem,ae]) ⟨upd f 1 true,upd r 0 w'.heap.size,b,.int .i64 ns.length,(.slice (some ⟨w'.heap.size,0,none⟩) ns.length ns.length),x19,x20,x21,x22,p5,p6,p7,rfl,rfl,hid (d.out.make 0 (by omega) R),l,fun _=>rfl,D,fun h=>⟨rfl,(s0 h).2⟩,F,K,B,s1,J,E,C,s2,rfl⟩⟩
   .have a:f 2=false:=by simpa using q
    obtain rfl:=Option.some.inj (show some _=some o from L);exact⟨left12 (upd f 2 true),zap f 2 (by omega) a,zbm (.int .i64 ns.length) rfl rfl (by simp[execOp,go_sem]) ⟨upd f 2 true,r,b,x17,x18,.int .i64 ns.length,x20,x21,x22,p5,p6,p7,rfl,rfl,hid (d.out.mark 2 (by omega)),l,G,D,s0,fun _=>rfl,K,B,s1,J,E,C,s2,rfl⟩⟩
   .have a:f 3=false:=by simpa using q
    obtain rfl:=Option.some.inj (show some _=some o from L);have d0:f 2=true:=by simpa using X ⟨2,.data⟩ (by simp) rfl
    have T:=F d0;subst T;have R:f 10=false:=by cases hq:f 10 with|false=>rfl|true=>rw[(s1 hq).1]at a;cases a
    exact⟨left12 (upd f 3 true),zap f 3 (by omega) a,zbm (.slice (some ⟨w'.heap.size,0,none⟩) ns.length ns.length) rfl rfl (by simp[execOp,go_sem,ae]) ⟨upd f 3 true,upd r 1 w'.heap.size,b,x17,x18,.int .i64 ns.length,(.slice (some ⟨w'.heap.size,0,none⟩) ns.length ns.length),x21,x22,p5,p6,p7,rfl,rfl,hid (d.out.make 1 (by omega) R),l,G,D,s0,F,fun _=>rfl,B,fun h=>⟨rfl,(s1 h).2⟩,J,E,C,s2,rfl⟩⟩
   .have a:f 4=false:=by simpa using q
    obtain rfl:=Option.some.inj (show some _=some o from L);exact⟨left12 (upd f 4 true),zap f 4 (by omega) a,zbm (.int .i64 ns.length) rfl rfl (by simp[execOp,go_sem]) ⟨upd f 4 true,r,b,x17,x18,x19,x20,.int .i64 ns.length,x22,p5,p6,p7,rfl,rfl,hid (d.out.mark 4 (by omega)),l,G,D,s0,F,K,B,s1,fun _=>rfl,E,C,s2,rfl⟩⟩
   .have a:f 5=false:=by simpa using q
    obtain rfl:=Option.some.inj (show some _=some o from L);have d0:f 4=true:=by simpa using X ⟨4,.data⟩ (by simp) rfl
    have T:=J d0;subst T;have R:f 11=false:=by cases hq:f 11 with|false=>rfl|true=>rw[(s2 hq).1]at a;cases a
    exact⟨left12 (upd f 5 true),zap f 5 (by omega) a,zbm (.slice (some ⟨w'.heap.size,0,none⟩) ns.length ns.length) rfl rfl (by simp[execOp,go_sem,ae]) ⟨upd f 5 true,upd r 2 w'.heap.size,b,x17,x18,x19,x20,.int .i64 ns.length,(.slice (some ⟨w'.heap.size,0,none⟩) ns.length ns.length),p5,p6,p7,rfl,rfl,hid (d.out.make 2 (by omega) R),l,G,D,s0,F,K,B,s1,J,fun _=>rfl,C,fun h=>⟨rfl,(s2 h).2⟩,rfl⟩⟩
   .have a:f 6=false:=by simpa using q
    obtain rfl:=Option.some.inj (show some _=some o from L);have R:f 9=false:=by cases hq:f 9 with|false=>rfl|true=>rw[(s0 hq).2]at a;cases a
    exact⟨left12 (upd f 6 true),zap f 6 (by omega) a,zbm (.pointer (some ⟨w'.heap.size,0,none⟩)) rfl rfl (by simp[execOp,go_sem]) ⟨upd f 6 true,r,upd b 0 w'.heap.size,x17,x18,x19,x20,x21,x22,(.pointer (some ⟨w'.heap.size,0,none⟩)),p6,p7,rfl,rfl,hid (d.out.boxed 0 (by omega) R),l,G,fun _=>rfl,fun h=>⟨(s0 h).1,rfl⟩,F,K,B,s1,J,E,C,s2,rfl⟩⟩
   .have a:f 7=false:=by simpa using q
    obtain rfl:=Option.some.inj (show some _=some o from L);have R:f 10=false:=by cases hq:f 10 with|false=>rfl|true=>rw[(s1 hq).2]at a;cases a
    exact⟨left12 (upd f 7 true),zap f 7 (by omega) a,zbm (.pointer (some ⟨w'.heap.size,0,none⟩)) rfl rfl (by simp[execOp,go_sem]) ⟨upd f 7 true,r,upd b 1 w'.heap.size,x17,x18,x19,x20,x21,x22,p5,(.pointer (some ⟨w'.heap.size,0,none⟩)),p7,rfl,rfl,hid (d.out.boxed 1 (by omega) R),l,G,D,s0,F,K,fun _=>rfl,fun h=>⟨(s1 h).1,rfl⟩,J,E,C,s2,rfl⟩⟩
   .have a:f 8=false:=by simpa using q
    obtain rfl:=Option.some.inj (show some _=some o from L);have R:f 11=false:=by cases hq:f 11 with|false=>rfl|true=>rw[(s2 hq).2]at a;cases a
    exact⟨left12 (upd f 8 true),zap f 8 (by omega) a,zbm (.pointer (some ⟨w'.heap.size,0,none⟩)) rfl rfl (by simp[execOp,go_sem]) ⟨upd f 8 true,r,upd b 2 w'.heap.size,x17,x18,x19,x20,x21,x22,p5,p6,(.pointer (some ⟨w'.heap.size,0,none⟩)),rfl,rfl,hid (d.out.boxed 2 (by omega) R),l,G,D,s0,F,K,B,s1,J,E,fun _=>rfl,fun h=>⟨(s2 h).1,rfl⟩,rfl⟩⟩
   .have a:f 9=false:=by simpa using q
    obtain rfl:=Option.some.inj (show some _=some o from L);have I:f 6=true:=by simpa using X ⟨6,.data⟩ (by simp) rfl
    have d2:f 1=true:=by simpa using X ⟨1,.data⟩ (by simp) rfl
    have T:=G d2;subst T;have hp:=D I;subst hp;have x:=(d.out.box 0 (by omega) I).2;have hc:w'.cell? ⟨b 0,0,none⟩=some (.slice none 0 0):=by rw[x.cell 0];simp[a]
    have hz:=x.frozen 0;exact⟨left12 (upd f 9 true),zap f 9 (by omega) a,zjj (w':=w'.setCell ⟨b 0,0,none⟩ (.slice (some ⟨r 0,0,none⟩) ns.length ns.length)) rfl rfl (by simp[execOp,go_sem,hc,hz]) ⟨upd f 9 true,r,b,x17,(.slice (some ⟨r 0,0,none⟩) ns.length ns.length),x19,x20,x21,x22,(.pointer (some ⟨b 0,0,none⟩)),p6,p7,rfl,rfl,hid (d.out.fill 0 (by omega) I),l,G,D,fun _=>⟨d2,I⟩,F,K,B,s1,J,E,C,s2,rfl⟩⟩
   .have a:f 10=false:=by simpa using q
    obtain rfl:=Option.some.inj (show some _=some o from L);have I:f 7=true:=by simpa using X ⟨7,.data⟩ (by simp) rfl
    have d2:f 3=true:=by simpa using X ⟨3,.data⟩ (by simp) rfl
    have T:=K d2;subst T;have hp:=B I;subst hp;have x:=(d.out.box 1 (by omega) I).2;have hc:w'.cell? ⟨b 1,0,none⟩=some (.slice none 0 0):=by rw[x.cell 0];simp[a]
    have hz:=x.frozen 0;exact⟨left12 (upd f 10 true),zap f 10 (by omega) a,zjj (w':=w'.setCell ⟨b 1,0,none⟩ (.slice (some ⟨r 1,0,none⟩) ns.length ns.length)) rfl rfl (by simp[execOp,go_sem,hc,hz]) ⟨upd f 10 true,r,b,x17,x18,x19,(.slice (some ⟨r 1,0,none⟩) ns.length ns.length),x21,x22,p5,(.pointer (some ⟨b 1,0,none⟩)),p7,rfl,rfl,hid (d.out.fill 1 (by omega) I),l,G,D,s0,F,K,B,fun _=>⟨d2,I⟩,J,E,C,s2,rfl⟩⟩
   .have a:f 11=false:=by simpa using q
    obtain rfl:=Option.some.inj (show some _=some o from L);have I:f 8=true:=by simpa using X ⟨8,.data⟩ (by simp) rfl
    have d2:f 5=true:=by simpa using X ⟨5,.data⟩ (by simp) rfl
    have T:=E d2;subst T;have hp:=C I;subst hp;have x:=(d.out.box 2 (by omega) I).2;have hc:w'.cell? ⟨b 2,0,none⟩=some (.slice none 0 0):=by rw[x.cell 0];simp[a]
    have hz:=x.frozen 0;exact⟨left12 (upd f 11 true),zap f 11 (by omega) a,zjj (w':=w'.setCell ⟨b 2,0,none⟩ (.slice (some ⟨r 2,0,none⟩) ns.length ns.length)) rfl rfl (by simp[execOp,go_sem,hc,hz]) ⟨upd f 11 true,r,b,x17,x18,x19,x20,x21,(.slice (some ⟨r 2,0,none⟩) ns.length ns.length),p5,p6,(.pointer (some ⟨b 2,0,none⟩)),rfl,rfl,hid (d.out.fill 2 (by omega) I),l,G,D,s0,F,K,B,s1,J,E,C,fun _=>⟨d2,I⟩,rfl⟩⟩
  case fin=>
   rintro m t a' w' ⟨f,r,b,x17,x18,x19,x20,x21,x22,p5,p6,p7,rfl,rfl,d,l,G,D,s0,F,K,B,s1,J,E,C,s2,rfl⟩ hr;have M:=fun i=>mt mem_ready.2 (List.eq_nil_iff_forall_not_mem.1 hr i)
   have t0:f 0=true:=by
    cases e:f 0 with
    |true=>rfl
    |false=>exact(M 0 ⟨by simpa using e,_,rfl,by simp[Region.binds, *]⟩).elim
   have t2:f 2=true:=by
    cases e:f 2 with
    |true=>rfl
    |false=>exact(M 2 ⟨by simpa using e,_,rfl,by simp[Region.binds, *]⟩).elim
   have t4:f 4=true:=by
    cases e:f 4 with
    |true=>rfl
    |false=>exact(M 4 ⟨by simpa using e,_,rfl,by simp[Region.binds, *]⟩).elim
   have t6:f 6=true:=by
    cases e:f 6 with
    |true=>rfl
    |false=>exact(M 6 ⟨by simpa using e,_,rfl,by simp[Region.binds, *]⟩).elim
   have t7:f 7=true:=by
    cases e:f 7 with
    |true=>rfl
    |false=>exact(M 7 ⟨by simpa using e,_,rfl,by simp[Region.binds, *]⟩).elim
   have t8:f 8=true:=by
    cases e:f 8 with
    |true=>rfl
    |false=>exact(M 8 ⟨by simpa using e,_,rfl,by simp[Region.binds, *]⟩).elim
   have t1:f 1=true:=by
    cases e:f 1 with
    |true=>rfl
    |false=>exact(M 1 ⟨by simpa using e,_,rfl,by simp[Region.binds, *]⟩).elim
   have t3:f 3=true:=by
    cases e:f 3 with
    |true=>rfl
    |false=>exact(M 3 ⟨by simpa using e,_,rfl,by simp[Region.binds, *]⟩).elim
   have t5:f 5=true:=by
    cases e:f 5 with
    |true=>rfl
    |false=>exact(M 5 ⟨by simpa using e,_,rfl,by simp[Region.binds, *]⟩).elim
   have t9:f 9=true:=by
    cases e:f 9 with
    |true=>rfl
    |false=>exact(M 9 ⟨by simpa using e,_,rfl,by simp[Region.binds, *]⟩).elim
   have az:f 10=true:=by
    cases e:f 10 with
    |true=>rfl
    |false=>exact(M 10 ⟨by simpa using e,_,rfl,by simp[Region.binds, *]⟩).elim
   have ay:f 11=true:=by
    cases e:f 11 with
    |true=>rfl
    |false=>exact(M 11 ⟨by simpa using e,_,rfl,by simp[Region.binds, *]⟩).elim
   have hf:f=fun k=>f k:=rfl
   have p:∀k,k<12->f k=true:=by
    intro k hk;obtain rfl|rfl|rfl|rfl|rfl|rfl|rfl|rfl|rfl|rfl|rfl|rfl:k=0\/k=1\/k=2\/k=3\/k=4\/k=5\/k=6\/k=7\/k=8\/k=9\/k=10\/k=11:=by omega
    all_goals assumption
   have hM:Mk3 ns.length w1 w' (fun _=>true) r b:=⟨d.out.below,fun j hj _=>d.out.row j hj (p _ (by omega)),fun j hj _=>by
    have:=d.out.box j hj (p _ (by omega));rw[p (9+j) (by omega)]at this;exact this,fun j k hj hk ab _ _=>d.out.rr j k hj hk ab (p _ (by omega)) (p _ (by omega)),fun j k hj hk ab _ _=>d.out.bb j k hj hk ab (p _ (by omega)) (p _ (by omega))⟩
   have aC:=D t6;have av:=B t7;have al:=C t8;subst aC;subst av;subst al;have ap:=hid hM;clear hM p hf M hr d l G D s0 F K B s1 J E C s2 t0 t1 t2 t3 t4 t5 t6 t7 t8 t9 az ay;go_wp2;go_meet;exact⟨r,b,rfl,rfl,rfl,ap⟩
 case rest=>
  obtain⟨r,b,rfl,rfl,rfl,d⟩:=hcut;obtain⟨l,U⟩:∃l:Nat->List Int,(fun k=>List.replicate k (-1:Int)++List.replicate (ns.length-k) 0)=l:=⟨_,rfl⟩
  have ar:Hid (∀k,k<ns.length->(l k).set k (-1)=l (k+1)/\(l k).length=ns.length/\(l k).getD k (-1)=0):=hid (fun k hk=>by
   rw[<-U];refine⟨?_,by simp;omega,?_⟩
   .simp only;rw[List.set_append_right _ _ (by simp),List.length_replicate,Nat.sub_self,show ns.length-k=(ns.length-(k+1))+1 from by omega,List.replicate_succ,List.set_cons_zero,List.replicate_succ',List.append_assoc];rfl
   .simp only;rw[List.getD_eq_getElem?_getD,List.getElem?_append_right (by simp),List.length_replicate,Nat.sub_self,List.getElem?_replicate,if_pos (by omega)];rfl)
  have aA:Hid (icells (List.replicate ns.length 0)=jcells (l 0)):=hid (by rw[<-U];simp[icells,jcells]);have aB:Hid (l ns.length=List.replicate ns.length (-1)):=hid (by rw[<-U];simp);clear U;obtain⟨s,Q⟩:=ex (r 2)
  obtain⟨V,P⟩:=ex (b 2)
  have O:Hid (Blk wc V 34 #[.slice (some ⟨s,0,none⟩) ns.length ns.length]/\Blk wc s 3 (jcells (l 0))):=hid (by
   have h1:=(d.out.box 2 (by omega) rfl).2;have h2:=(d.out.row 2 (by omega) rfl).2;rw[aA.out]at h2;subst Q;subst P;exact⟨by simpa using h1,h2⟩)
  have am:=hid (And.intro Q P);(try rw[P]);clear Q P;have c0:wc.cell? ⟨V,0,none⟩=some (.slice (some ⟨s,0,none⟩) ns.length ns.length):=O.out.1.cell 0;have ag:V≠s:=O.out.1.ne_ O.out.2 (by decide);go_upto_region 4 with fail;clear c0;go_loopw [25] (fun s25 wr=>∃k:Nat,k<=ns.length/\s25=.int .i64 k/\Hid (KB s wc wr/\Blk wr s 3 (jcells (l k)))) (fun s25 _=>ns.length-(intOf s25).toNat)
  case atStart=>exact⟨0,by omega,rfl,hid ⟨KB.refl _ _,O.out.2⟩⟩
  case round=>
   obtain⟨k,hk,rfl,HW⟩:=hrel;by_cases hlk:k<ns.length
   .have aj:(k:Int)<(ns.length:Int):=by omega
    have c0:wr.cell? ⟨V,0,none⟩=some (.slice (some ⟨s,0,none⟩) ns.length ns.length):=(HW.out.1.blk O.out.1 ag).cell 0;obtain⟨e1,e2,e3⟩:=ar.out k hlk;have z0:wr.cell? ⟨s,k,none⟩=some (.int .i64 0):=by rw[HW.out.2.cell,zb3 (by omega),e3]
    have zf:∀i,wr.frozen? ⟨s,i,none⟩=false:=HW.out.2.frozen;have ao:Hid (KB s wc (wr.setCell ⟨s,k,none⟩ (.int .i64 (-1)))/\Blk (wr.setCell ⟨s,k,none⟩ (.int .i64 (-1))) s 3 (jcells (l (k+1)))):=hid ⟨HW.out.1.set _ _,by
     rw[<-e1,<-zf7];exact HW.out.2.set_ k _⟩
    clear e1 e2 e3 HW;go_wp2;go_roundw
    case rel=>exact⟨k+1,by omega,by go_num,ao⟩
    case measure=>simp[intOf];omega
   .have aj:¬((k:Int)<(ns.length:Int)):=by omega
    have ai:Hid (KB s wc wr/\Blk wr s 3 (jcells (List.replicate ns.length (-1)))):=hid (by
     have:=HW.out;rw[show k=ns.length from by omega,aB.out]at this;exact this)
    clear HW;go_upto_region 13 with fail;have N:=ax.out;have hw1s:w1.heap.size=Z+1:=by rw[<-ac.out,<-N];simp
    have l1:Below w.heap.size w w1:=by rw[<-ac.out];exact(Below.refl _ _).alloc (Nat.le_refl _) _
    have ak:Blk w1 Z 24 #[.slice A ns.length c,.int .i64 root]:=by rw[<-ac.out,<-N];exact Blk.new _ _ _
    obtain⟨Q,P⟩:=am.out;obtain⟨x0,y0⟩:=d.out.row 0 (by omega) rfl;obtain⟨x1,y1⟩:=d.out.row 1 (by omega) rfl;obtain⟨x2,y2⟩:=d.out.row 2 (by omega) rfl;obtain⟨_,z0⟩:=d.out.box 0 (by omega) rfl;obtain⟨_,z1⟩:=d.out.box 1 (by omega) rfl;have aw:=d.out.rr 0 1 (by omega) (by omega) (by omega) rfl rfl;have ad:=d.out.rr 0 2 (by omega) (by omega) (by omega) rfl rfl;have aa:=d.out.rr 1 2 (by omega) (by omega) (by omega) rfl rfl;rw[Q]at x2 y2 ad aa;have ah:=ak.below d.out.below (by omega);have u:=ai.out.1;have Y:Below w.heap.size w wr:=(l1.trans (d.out.below.mono (by omega))).trans (u.below (by omega) (by have:=l1.size;have:=d.out.below.size;omega));have an:=Y.size;obtain⟨z,hz⟩:=ex wr.heap.size
    rw[hz];obtain⟨W,hW⟩:=ex ((((((wr.alloc (.cells #[.slice none 0 0] 34)).alloc (.cells #[.slice none 0 0] 34)).alloc (.cells (bcells (List.replicate ns.length false)) 4)).alloc (.cells #[.slice (some ⟨z+1+1,0,none⟩) ns.length ns.length] 52)).alloc (.cells #[.int .i64 0] 3)).alloc (.cells #[(compL z Z (b 0) (b 1) V (r 0) (r 1) s).fn] 67))
    obtain⟨hT,lW,hWs⟩:=zl8 w.heap.size z Z (b 0) (b 1) V (r 0) (r 1) s A c root vs ns wr W hz hW
     (u.blk (by simpa using z0) (z0.ne_ y2 (by decide))) (u.blk (by simpa using z1) (z1.ne_ y2 (by decide))) (u.blk O.out.1 ag) (u.blk y0 ad) (u.blk y1 aa) ai.out.2
     (u.blk ah (by omega)) aw ad aa (by omega) (by omega) (by omega) (by omega) (H.out.below Y)
    unfold compL TL.fn at hW;simp only at hW;rw[hW];have HT:=hid hT;have aq:=hid (Y.trans (lW.mono an));have v0:W.cell? ⟨z+1+1+1+1+1,0,none⟩=some (compL z Z (b 0) (b 1) V (r 0) (r 1) s).fn:=hT.xV.cell 0;unfold compL TL.fn at v0;simp only at v0;have g1:W.cell? ⟨Z,1,none⟩=some (.int .i64 root):=hT.xG.cell 1;have hC:=zl7 (y:=compL z Z (b 0) (b 1) V (r 0) (r 1) s) hr hl hks ns.length (tzero ns.length) root (fun _=>False) W _ _ hT (zhp _) hroot (zcv _ _) (fun g h=>h.elim) (Nat.le_trans List.countP_le_length (by simp));unfold TL.args compL at hC;simp only at hC;have HC:=hid hC;have HX:Hid (w.heap.size<=s/\w.heap.size<=z+1+1+1+1+1+1):=hid ⟨by omega,by omega⟩;clear hW hT hC l1 ak y0 y1 y2 z0 z1 ah u Y lW;go_wp2_with fail;refine HC.out.mono ?_;rintro e w9 ⟨rfl,sv,zv,h9,f9⟩;obtain⟨Az,cz,au,_⟩:=h9.siz.form;subst au;have B:w9.cell? ⟨V,0,none⟩=some (.slice (some ⟨s,0,none⟩) ns.length ns.length):=h9.xC.cell 0;have C:w9.cell? ⟨z,0,none⟩=some (.slice Az (tvisit (Gr.succ ns) ns.length (tzero ns.length) root).sizes.length cz):=h9.bZ.cell 0;have S:Hid (Below w.heap.size w w9/\Blk w9 s 3 (jcells (tcomp (Gr.succ ns) ns.length root).inn)/\OwnRow intL w9 w.heap.size 3 (.slice Az (tcomp (Gr.succ ns) ns.length root).sizes.length cz) (tcomp (Gr.succ ns) ns.length root).sizes):=
     hid ⟨aq.out.trans (HT.out.tfBelow f9),h9.rC,h9.siz.lower HX.out.2⟩
    clear v0 g1 h9 f9;go_upto_region 14 with fail;go_quiet (fail);go_wp2_with fail;refine bodyPost_ret (v:=.tuple #[.slice (some ⟨s,0,none⟩) ns.length ns.length,.slice Az (tvisit (Gr.succ ns) ns.length (tzero ns.length) root).sizes.length cz]) (by simp[results,results41,go_sem]) rfl ?_;exact⟨s,Az,cz,rfl,HX.out.1,below_drewN S.out.1 _,S.out.2.1.drewN _,S.out.2.2.drewN _⟩
theorem infoSl:(prog.info? 34).map (fun i=>(i.zero,i.size,i.bytes))=some (some (.slice none 0 0),1,24):=by kernel_rfl
theorem zjk (n:Nat) (hn:n<=1073741824) (W:World):(Instr.makeSlice 66 (.int .i64 (n:Int)) (.int .i64 (n:Int))).run prog W=.ok (.slice (some ⟨W.heap.size,0,none⟩) n n) (W.alloc (.cells (List.replicate n (Value.slice none 0 0)).toArray 34)):=by
 obtain⟨e,b,c,d,a⟩:=info_parts infoSl;have:=zbk (P:=prog) 66 34 e _ underlying66 b c .i64 .i64 n n (Nat.le_refl _) (by rw[a];omega) (by omega) W;rw[d]at this;simp only[Value.cells,zbl]at this;exact this
structure Mems (w:World) (D rM:Nat) (mv:List Value) (ml:List (List Nat)):Prop where
 blk:Blk w rM 34 mv.toArray
 lo:rM<D
 hd:D<=w.heap.size
 len:mv.length=ml.length
 own:∀c (h1:c<mv.length) (h2:c<ml.length),OwnRow intL w D 3 mv[c] ml[c]
 ap:∀c c' (h1:c<mv.length) (h2:c'<mv.length),c≠c'->∀k,mv[c].ownBlock=some k->mv[c'].ownBlock≠some k
section
variable {w w' w2:World} {D rM:Nat} {mv:List Value} {ml:List (List Nat)}
theorem Mems.start {m:Nat} (hb:Blk w rM 34 (List.replicate m (Value.slice none 0 0)).toArray) (lo:rM<D) (hd:D<=w.heap.size):Mems w D rM (List.replicate m (.slice none 0 0)) (List.replicate m []):=
 ⟨hb,lo,hd,by simp,fun c a b=>by simp only[List.getElem_replicate];exact OwnRow.nil,fun c c' a b _ k e=>by simp only[List.getElem_replicate]at e;cases e⟩
theorem Mems.later (h:Mems w D rM mv ml) (hb:Below w.heap.size w w'):Mems w' D rM mv ml:=
 ⟨h.blk.below hb h.blk.lt,h.lo,Nat.le_trans h.hd hb.size,h.len,fun c b a=>(h.own c b a).later hb,h.ap⟩
theorem Mems.alloc (h:Mems w D rM mv ml) (o:Obj):Mems (w.alloc o) D rM mv ml:=h.later ((Below.refl _ _).alloc (Nat.le_refl _) o)
theorem Mems.kb {g:Nat} (h:Mems w D rM mv ml) (hk:KB g w w') (hg:g<D) (hne:g≠rM):Mems w' D rM mv ml:=by
 refine⟨hk.blk h.blk (Ne.symm hne),h.lo,Nat.le_trans h.hd hk.size,h.len,fun c l n=>?_,h.ap⟩;have i:=h.own c l n;have j:=i.lt;refine⟨i.1,i.2.imp id ?_⟩;rintro⟨a,b,f,k,d,m,r⟩;have e:mv[c].ownBlock=some a:=by rw[k];rfl
 have:=j a e;exact⟨a,b,f,k,d,(hk.block a (by omega) (by omega)).trans m,r⟩
theorem Mems.grown (h:Mems w D rM mv ml) {c:Nat} (hc:c<mv.length) {v2:Value} {l:List Nat} (ho:OwnRow intL w2 D 3 v2 l) (hg:w.grownBy w2 (mv[c]).ownBlock) (hat:v2.ownBlock=(mv[c]).ownBlock\/v2.ownBlock=some w.heap.size):
 Mems (w2.setCell ⟨rM,c,none⟩ v2) D rM (mv.set c v2) (ml.set c l):=by
 have i:c<ml.length:=by rw[<-h.len];exact hc
 have g:=h.lo;have hsz:=hg.size;have f:Blk w2 rM 34 mv.toArray:=h.blk.grown hg (fun e=>by have:=((h.own c hc i).lt rM e.symm).1;omega);have hap:∀c' (h1:c'<mv.length),c'≠c->∀k,v2.ownBlock=some k->mv[c'].ownBlock≠some k:=by
  intro c' h1 a k e d;rcases hat with h3|h3
  .exact h.ap c' c h1 hc a k d (h3.symm.trans e)
  .have:=((h.own c' h1 (by rw[<-h.len];exact h1)).lt k d).2;rw[h3]at e;injection e with e;omega
 refine⟨?_,g,?_,by simp[h.len],?_,?_⟩
 .have:=f.set_ c v2;simpa using this
 .have:=h.hd;simp[World.setCell];omega
 .intro c' h1 b;simp only[List.length_set]at h1 b;by_cases hcc:c'=c
  .subst hcc;simp only[List.getElem_set_self];exact ho.setCell (p:=⟨rM,c',none⟩) (fun e=>by have:=(ho.lt _ e).1;simp only at this;omega) _
  .simp only[List.getElem_set_ne (Ne.symm hcc)];have h3:=h.own c' h1 b;have j:=h3.off hg (fun k e d=>h.ap c' c h1 hc hcc k e d.symm);exact j.setCell (p:=⟨rM,c,none⟩) (fun e=>by have:=(h3.lt _ e).1;simp only at this;omega) _
 .intro m n h1 b a k e;simp only[List.length_set]at h1 b;by_cases h3:m=c
  .grind
  .simp only[List.getElem_set_ne (Ne.symm h3)]at e;by_cases j:n=c
   .grind
   .simp only[List.getElem_set_ne (Ne.symm j)];exact h.ap m n h1 b a k e
theorem Mems.grownKB {w4:World} (h:Mems w D rM mv ml) (hk:KB rM w4 w) (hD:w4.heap.size=D) {c:Nat} (hc:c<mv.length) (v2:Value) (hg:w.grownBy w2 (mv[c]).ownBlock):
 KB rM w4 (w2.setCell ⟨rM,c,none⟩ v2):=by
 have b:c<ml.length:=by rw[<-h.len];exact hc
 have a:Below D w w2:=(h.own c hc b).grown_below hg h.hd;refine KB.set ⟨a.os.trans hk.os,a.tape.trans hk.tape,a.output.trans hk.output,Nat.le_trans hk.size a.size,fun k e d=>(a.block k (by omega)).trans (hk.block k e d)⟩ _ _
theorem Mems.at_ (h:Mems w D rM mv ml) {c:Nat} (hc:c<ml.length):∃A cap,mv[c]? =some (.slice A (ml[c]).length cap)/\w.cell? ⟨rM,c,none⟩=some (.slice A (ml[c]).length cap)/\RowAt intL w w.heap.size A ml[c]:=by
 have a:c<mv.length:=by rw[h.len];exact hc
 obtain⟨A,cap,b,d⟩:=(h.own c a hc).form;refine⟨A,cap,by rw[List.getElem?_eq_getElem a,b],?_,d⟩;rw[h.blk.cell];simp[List.getElem?_eq_getElem a,b]
theorem Mems.row (h:Mems w D rM mv ml) {c:Nat} (hc:c<ml.length) {A:Option Addr} {n cap:Nat} (e:mv[c]? =some (.slice A n cap)):RowAt intL w w.heap.size A ml[c]:=by
 obtain⟨A',cap',b,_,a⟩:=h.at_ hc;rw[b]at e;injection e with e
 injection e with e _ _
 subst e;exact a
end
theorem zic (inn:Nat->Int) (i c:Nat):members inn (i+1) c=if inn i=(c:Int)then members inn i c++[i]else members inn i c:=by
 unfold members;rw[List.range_succ,List.filter_append];by_cases h:inn i=(c:Int)<;>simp[h]
def memsL (inn:Nat->Int) (i m:Nat):List (List Nat):=(List.range m).map (fun c=>members inn i c)
theorem zcj (inn:Nat->Int) (i m:Nat):(memsL inn i m).length=m:=by simp[memsL]
theorem zma (inn:Nat->Int) (m:Nat):memsL inn 0 m=List.replicate m []:=by
 unfold memsL;apply List.ext_getElem
 .simp
 .intro i h1 h2;simp[members]
theorem zck (inn:Nat->Int) (i m c:Nat) (h:c<(memsL inn i m).length):(memsL inn i m)[c]=members inn i c:=by simp[memsL]
theorem zmb (inn:Nat->Int) (i m c:Nat) (h:inn i=(c:Int)):memsL inn (i+1) m=(memsL inn i m).set c (members inn i c++[i]):=by
 apply List.ext_getElem
 .simp[memsL]
 .intro k h1 h2;rw[zck,zic];by_cases hk:k=c
  .grind
  .rw[List.getElem_set_ne (Ne.symm hk),if_neg (by omega),zck]
theorem ze4 (inn:Nat->Int) (i c:Nat):(members inn i c).length<=i:=by
 unfold members;exact Nat.le_trans (List.length_filter_le _ _) (by simp)
theorem zmc (inn:Nat->Int) (n c:Nat):∀x∈members inn n c,x<n:=by
 intro x a;unfold members at a;exact List.mem_range.1 (List.mem_filter.1 a).1
def Sml (M:Nat) (p:List Nat×Bool):Prop:=∀k,p.1.getD k 0<=M
theorem Sml.step {M:Nat} {inn:Nat->Int} {c:Nat} {p:List Nat×Bool} (h:Sml M p) (x:Nat):Sml M (dstep inn c p x):=by
 unfold dstep;split
 .exact h
 .intro k;show(p.1.set c _).getD k 0<=M;by_cases hk:c=k
  .subst hk;by_cases hl:c<p.1.length
   .rw[za1 _ _ _ _ hl];have:=h c;have:=h (inn x).toNat;omega
   .grind
  .rw[Gr.getD_set_ne _ _ _ _ _ hk];exact h k
theorem Sml.fold {M:Nat} {inn:Nat->Int} {c:Nat} (L:List Nat):∀{p:List Nat×Bool},Sml M p->Sml M (L.foldl (dstep inn c) p):=by
 induction L with
 |nil=>intro p h;exact h
 |cons x L ih=>intro p h;rw[List.foldl_cons];exact ih (h.step x)
theorem Sml.foldM {M:Nat} {inn:Nat->Int} {c:Nat} (sc:Nat->List Nat) (L:List Nat):∀{p:List Nat×Bool},Sml M p->Sml M (L.foldl (fun p i=>(sc i).foldl (dstep inn c) p) p):=by
 induction L with
 |nil=>intro p h;exact h
 |cons x L ih=>intro p h;rw[List.foldl_cons];exact ih (h.fold _)
theorem zox (inn:Nat->Int) (c:Nat) (p:List Nat×Bool) (x:Nat):(dstep inn c p x).1.length=p.1.length:=by
 unfold dstep;split<;>simp
theorem ze5 (inn:Nat->Int) (c:Nat) (L:List Nat):∀p:List Nat×Bool,(L.foldl (dstep inn c) p).1.length=p.1.length:=by
 induction L with
 |nil=>intro p;rfl
 |cons x L ih=>intro p;rw[List.foldl_cons,ih,zox]
theorem zdz (inn:Nat->Int) (c:Nat) (sc:Nat->List Nat) (L:List Nat):∀p:List Nat×Bool,(L.foldl (fun p i=>(sc i).foldl (dstep inn c) p) p).1.length=p.1.length:=by
 induction L with
 |nil=>intro p;rfl
 |cons x L ih=>intro p;rw[List.foldl_cons,ih,ze5]
theorem zoy (sc:Nat->List Nat) (inn:Nat->Int) (n:Nat) (sizes:List Nat) (p:List Nat×Bool) (c:Nat):(dcomp sc inn n sizes p c).1.length=p.1.length:=by
 unfold dcomp;simp[zdz]
theorem zf8 (sc:Nat->List Nat) (inn:Nat->Int) (n:Nat) (sizes:List Nat) (L:List Nat):∀p:List Nat×Bool,(L.foldl (dcomp sc inn n sizes) p).1.length=p.1.length:=by
 induction L with
 |nil=>intro p;rfl
 |cons x L ih=>intro p;rw[List.foldl_cons,ih,zoy]
theorem Sml.comp {M N:Nat} {sc:Nat->List Nat} {inn:Nat->Int} {n:Nat} {sizes:List Nat} {p:List Nat×Bool} (h:Sml M p) (c:Nat) (hN:∀k,sizes.getD k 0<=N):Sml (M+N) (dcomp sc inn n sizes p c):=by
 unfold dcomp;have a:=h.foldM (inn:=inn) (c:=c) sc (members inn n c);obtain⟨q,b⟩:=ex ((members inn n c).foldl (fun p i=>(sc i).foldl (dstep inn c) p) p)
 rw[b]at a;rw[b];intro k;show(q.1.set c _).getD k 0<=_;have:=a k;by_cases hk:c=k
 .grind
 .grind
theorem Sml.comps {N:Nat} {sc:Nat->List Nat} {inn:Nat->Int} {n:Nat} {sizes:List Nat} {p:List Nat×Bool} (h:Sml 0 p) (hN:∀k,sizes.getD k 0<=N) (k:Nat):Sml (k*N) ((List.range k).foldl (dcomp sc inn n sizes) p):=by
 induction k with
 |zero=>simpa using h
 |succ k ih=>
  rw[List.range_succ,List.foldl_append,Nat.add_mul,Nat.one_mul];exact ih.comp k hN
structure DepF (w:World) (gb rC rB:Nat) (A Az:Option Addr) (c:Nat) (root:Int) (vs:List NV) (ns:List Gr.Nd) (inn:List Int) (sizes:List Nat):Prop where
 bg:Blk w gb 24 #[.slice A ns.length c,.int .i64 root]
 lg:gb<rB
 bc:Blk w rC 3 (jcells inn)
 lc:rC<rB
 rz:RowAt intL w rB Az sizes
 at_:GAt w rB A vs ns
theorem DepF.below {w w':World} {gb rC rB:Nat} {A Az:Option Addr} {c:Nat} {root:Int} {vs:List NV} {ns:List Gr.Nd} {inn:List Int} {sizes:List Nat} (h:DepF w gb rC rB A Az c root vs ns inn sizes) (hb:Below rB w w'):DepF w' gb rC rB A Az c root vs ns inn sizes:=
 ⟨h.bg.below hb h.lg,h.lg,h.bc.below hb h.lc,h.lc,h.rz.below hb,h.at_.below hb⟩
theorem zvn (t:Gr.TS) (v:Nat):t.cn v=t.inn.getD v (-1):=rfl
theorem ze6 (A:Option Addr) (c root:Nat) (vs:List NV) (ns:List Gr.Nd) (hr:Refs ns) (hl:ns.length<=1073741823) (hks:∀n∈ns,n.keys.length<=1073741823/\n.items.length<=1073741823) (hroot:root<ns.length)
 (hall:∀v,v<ns.length->Gr.Reach (Gr.succ ns) root v) (w:World) (h:GAt w w.heap.size A vs ns):
 Calls prog 23 #[.agg #[.slice A ns.length c,.int .i64 root]] w fun e w'=>e=.returned (.tuple #[.int .i64 (depth ns root).1,.bool (depth ns root).2])/\Below w.heap.size w w':=by
 obtain⟨hC,aR,ai⟩:=zkp hr.succ root hroot hall;have HC:=hid hC;have H:=hid h;have aO:=hid (fun W hW=>zfw A c root vs ns hr hl hks hroot W (h.below hW|>.more hW.size));obtain⟨t,ht⟩:=ex (tcomp (Gr.succ ns) ns.length root)
 rw[ht]at aR ai HC;have HT:=hid ht;obtain⟨m,hm⟩:=ex t.sizes.length
 have HM:=hid hm;rw[hm]at ai;have hml:m<=1073741823:=by omega
 have bM:=fun W=>zb0 m (by omega) W
 have bH:=fun W=>zjk m (by omega) W
 have hrI:(root:Int)<(ns.length:Int):=by omega
 have ax:=hid aR;have HCZ:=hid ai;clear h hC ht hm aR ai;go_enter func23,ntmps23;go_upto_region 1 with fail;obtain⟨w1,ao⟩:=ex (w.alloc (.cells #[.slice A ns.length c,.int .i64 root] 24))
 (try rw[ao]);have l1:Below w.heap.size w w1:=by rw[<-ao];exact(Below.refl _ _).alloc (Nat.le_refl _) _
 have b1:Blk w1 w.heap.size 24 #[.slice A ns.length c,.int .i64 root]:=by rw[<-ao];exact Blk.new _ _ _
 obtain⟨gb,aj⟩:=ex w.heap.size
 have aN:=hid aj;have L1:=hid l1;(try rw[aj]);rw[aj]at b1;have aI:=hid b1;obtain⟨g0,g1⟩:=cells2 b1;have br:=hid (aO.out w1 l1);clear ao aj l1 b1;go_wp2_with fail;refine br.out.mono ?_;rintro e w2 ⟨rC,Az,cz,rfl,h1,h2,h3,h4⟩;rw[HT.out]at h3 h4 ⊢;rw[HM.out]at h4 ⊢;obtain⟨Az',cz',a0,a5⟩:=h4.form;rw[HM.out]at a0;injection a0 with e1 _ e2
 subst e1;subst e2;obtain⟨f,R⟩:=ex w2.heap.size
 have aF:gb<f:=by have:=h2.size;have:=aI.out.lt;omega
 have bG:Hid (DepF w2 gb rC f A Az c root vs ns t.inn t.sizes):=hid ⟨aI.out.below h2 aI.out.lt,aF,h3,by have:=h3.lt;omega,by rw[<-R];exact a5,(H.out.below (L1.out.trans (h2.mono (by have:=L1.out.size;omega)))).more (by have:=aN.out;omega)⟩;have bC:Hid (Below w.heap.size w w2):=hid (L1.out.trans (h2.mono L1.out.size));clear h1 h2 h3 h4 g0 g1 a5;go_upto_region 5 with fail;obtain⟨w4,V⟩:=ex ((w2.alloc (.cells (icells (List.replicate m 0)) 3)).alloc (.cells (Array.replicate m (Value.slice none 0 0)) 34))
 have l4:Below f w2 w4:=by rw[<-V,<-R];exact((Below.refl _ _).alloc (Nat.le_refl _) _).alloc (by simp) _
 have al:w4.heap.size=f+1+1:=by rw[<-V];simp[R]
 have b4:Blk w4 f 3 (icells (List.replicate m 0)):=by rw[<-V,<-R];exact(Blk.new _ _ _).alloc _
 have m4:Blk w4 (f+1) 34 (Array.replicate m (Value.slice none 0 0)):=by
  rw[<-V,<-R];have:=Blk.new (w2.alloc (.cells (icells (List.replicate m 0)) 3)) 34 (Array.replicate m (Value.slice none 0 0));rw[World.size_alloc]at this;exact this
 obtain⟨E,aT⟩:=ex (f+1)
 rw[aT]at m4 al;obtain⟨D,hD⟩:=ex (E+1)
 rw[hD]at al;have g:Hid (gb<f/\f<E/\E<D/\w4.heap.size=D/\w.heap.size=gb):=hid ⟨aF,by omega,by omega,al,aN.out⟩;have bf:=hid (bG.out.below l4);have bK:Hid (Below w.heap.size w w4):=hid (bC.out.trans (l4.mono (by rw[aN.out];omega)));have bI:=hid b4;have bU:Hid (Mems w4 D E (List.replicate m (.slice none 0 0)) (List.replicate m [])):=hid (Mems.start (by simpa using m4) (by omega) (by omega));rw[aT,V];have aZ:=fun v (hv:v<ns.length)=>HC.out.rng v hv
 have az:=hid aZ;clear V R l4 al b4 m4 aT hD aF aZ bM bH;go_upto_region 6 with fail;go_loopw [31] (fun s31 wr=>∃i:Nat,i<=ns.length/\s31=.int .i64 i/\Hid (KB E w4 wr/\∃mv,Mems wr D E mv (memsL t.cn i m))) (fun s31 _=>ns.length-(intOf s31).toNat)
 case atStart=>exact⟨0,by omega,rfl,hid ⟨KB.refl _ _,_,by rw[zma];exact bU.out⟩⟩
 case round=>
  obtain⟨i,hi,rfl,I⟩:=hrel;by_cases hlt:i<ns.length
  .have K:(i:Int)<(ns.length:Int):=by omega
   obtain⟨X,mv,C⟩:=I.out;obtain⟨bP,aW⟩:=az.out i hlt;obtain⟨z,ap⟩:∃z:Nat,t.cn i=(z:Int):=⟨(t.cn i).toNat,by omega⟩
   rw[ap,HM.out]at aW;have aq:z<m:=by omega
   have hccI:(z:Int)<(m:Int):=by omega
   have l:z<mv.length:=by rw[C.len,zcj];exact aq
   have y0:wr.cell? ⟨rC,i,none⟩=some (.int .i64 (z:Int)):=by
    have:=((bf.out.below (X.below (by have:=g.out;omega) (by have:=g.out;omega))).bc).cell i;rw[this,zb3 (by rw[ax.out];exact hlt),<-zvn,ap]
   have aK:z<(memsL t.cn i m).length:=by rw[zcj];exact aq
   obtain⟨Ac,ae,bE,z0,bs⟩:=C.at_ aK;have af:=C.own z l aK;have o:mv[z]=.slice Ac (memsL t.cn i m)[z].length ae:=by
    have h1:=C.blk.cell z;rw[z0]at h1;simpa[List.getElem?_eq_getElem l]using h1.symm
   rw[zck]at z0 af o;clear bs bE aK;have av:=ze4 t.cn i z;obtain⟨L,hL⟩:=ex (members t.cn i z)
   rw[hL]at z0 af av o;rw[o]at af;have F:Hid (memsL t.cn (i+1) m=(memsL t.cn i m).set z (L++[i])):=hid (by rw[zmb _ _ _ _ ap,hL]);have zf:∀j,wr.frozen? ⟨E,j,none⟩=false:=C.blk.frozen;have bz:=hid af;have bv:Hid (∃l:z<mv.length,KB E w4 wr/\Mems wr D E mv (memsL t.cn i m)/\mv[z]=.slice Ac L.length ae):=hid ⟨l,X,C,o⟩;have aA:Hid (D<=wr.heap.size/\L.length+1<=1073741823):=hid ⟨C.hd,by omega⟩;clear X C bP aW ap l af o av hL;go_upto_region 8 with fail;clear y0;go_wp2_with (at_builtin;go_must (refine zab _ rfl (.tmp 41) (.tmp 43) 34 3 8 rfl intT D (.slice Ac L.length ae) L rfl (bz.out.alloc _) _ _ 1 [i] rfl (RowAt.lit1 _ _ rfl _ ?_) ?_ ?_ ?_))
   any_goals (first|rfl| (have:=aA.out;omega)| (have:=aA.out;simp;omega)| (rw[World.size_alloc];have:=aA.out;omega))
   intro v' w3 ab hg aP;obtain⟨l,X,C,o⟩:=bv.out;have aa:=C.alloc (.cells #[.int .i64 i] 3);rw[<-o]at hg aP;have bh:=aa.grown l ab hg (by rw[World.size_alloc];exact aP);have bm:=aa.grownKB (X.alloc _) g.out.2.2.2.1 l v' hg;have aU:Blk w3 E 34 mv.toArray:=aa.blk.grown hg (fun e=>by have:=((aa.own z l (by rw[zcj];omega)).lt E e.symm).1;have:=g.out;omega);have bw:w3.cell? ⟨E,z,none⟩=some mv[z]:=by rw[aU.cell];simp[List.getElem?_eq_getElem l]
   rw[o]at bw;have pf3:∀j,w3.frozen? ⟨E,j,none⟩=false:=aU.frozen;obtain⟨g3,aw,a7,_⟩:=ab.shape (by simp);obtain⟨n3,bb⟩:=ex ((L++[i]).length)
   rw[bb]at a7;subst a7;have s:Hid (KB E w4 (w3.setCell ⟨E,z,none⟩ (.slice (some ⟨g3,0,none⟩) n3 aw))/\∃mv,Mems (w3.setCell ⟨E,z,none⟩ (.slice (some ⟨g3,0,none⟩) n3 aw)) D E mv (memsL t.cn (i+1) m)):=hid ⟨bm,_,by rw[F.out];exact bh⟩;clear o X C aa ab hg aP bh bm aU bb z0 zf l;go_wp2;go_roundw
   case rel=>exact⟨i+1,by omega,by go_num,s⟩
   case measure=>simp[intOf];omega
  .have K:¬((i:Int)<(ns.length:Int)):=by omega
   have be:i=ns.length:=by omega
   obtain⟨X,mv,C⟩:=I.out;rw[be]at C;obtain⟨P,bD⟩:∃P,P=wr:=⟨_,rfl⟩
   subst bD;have a1:Hid (Mems P D E mv (memsL t.cn ns.length m)):=hid C;have an:Hid (DepF P gb rC f A Az c root vs ns t.inn t.sizes):=hid (bf.out.below (X.below (by have:=g.out;omega) (by have:=g.out;omega)));have F:Hid (Below w.heap.size w P/\D<=P.heap.size):=hid ⟨bK.out.trans (X.below (by have:=g.out;omega) (by have:=g.out;omega)),C.hd⟩;have bL:Hid (Blk P f 3 (icells (List.replicate m 0))):=hid (X.blk bI.out (by have:=g.out;omega));clear X C I be hi hlt;go_upto_region 11 with fail;clear K;go_loopw [6,49] (fun s6 s49 wr=>∃(k:Nat) (p:List Nat×Bool),k<=m/\s49=.int .i64 k/\s6=.bool p.2/\Hid (p=(List.range k).foldl (dcomp (Gr.succ ns) t.cn ns.length t.sizes) (List.replicate m 0,true)/\KB f P wr/\Blk wr f 3 (icells p.1))) (fun _ s49 _=>m-(intOf s49).toNat)
   case atStart=>exact⟨0,(List.replicate m 0,true),by omega,rfl,rfl,hid ⟨rfl,KB.refl _ _,bL.out⟩⟩
   case round=>
    obtain⟨k,p,X,rfl,rfl,I⟩:=hrel;obtain⟨wq,bT⟩:∃wq,wq=wr:=⟨_,rfl⟩
    subst bT;by_cases hlt:k<m
    .have K:(k:Int)<(m:Int):=by omega
     have C:=a1.out.kb I.out.2.1 (by have:=g.out;omega) (by have:=g.out;omega);obtain⟨Ak,capk,l,z0,bO⟩:=C.at_ (c:=k) (by rw[zcj];exact hlt);clear bO;rw[zck]at z0 l;have aX:Hid (∀W,KB f P W->RowAt intL W W.heap.size Ak (members t.cn ns.length k)):=hid (fun W hW=>by
      have:=(a1.out.kb hW (by have:=g.out;omega) (by have:=g.out;omega)).row (c:=k) (by rw[zcj];exact hlt) l;rwa[zck]at this)
     clear l;have bR:=ze4 t.cn ns.length k;have bj:Hid (∀x∈members t.cn ns.length k,x<ns.length):=hid (zmc t.cn ns.length k);have bk:Hid (dcomp (Gr.succ ns) t.cn ns.length t.sizes p k=((((members t.cn ns.length k).foldl (fun p i=>(Gr.succ ns i).foldl (dstep t.cn k) p) p).1.set k (((members t.cn ns.length k).foldl (fun p i=>(Gr.succ ns i).foldl (dstep t.cn k) p) p).1.getD k 0+t.sizes.getD k 0)),((members t.cn ns.length k).foldl (fun p i=>(Gr.succ ns i).foldl (dstep t.cn k) p) p).2)):=hid rfl;obtain⟨Lk,bp⟩:=ex (members t.cn ns.length k)
     rw[bp]at z0 aX bR bj bk;have aE:∀j,t.sizes.getD j 0<=ns.length:=fun j=>by
      by_cases hj:j<t.sizes.length
      .rw[HC.out.cnt j hj];exact Nat.le_trans List.countP_le_length (by simp)
      .simp[List.getD_eq_getElem?_getD,List.getElem?_eq_none (Nat.le_of_not_lt hj)]
     have bt:=hid aE;have ak:p.1.length=m:=by rw[I.out.1,zf8];simp
     have T:Sml (k*ns.length) p:=by
      rw[I.out.1];refine Sml.comps (fun j=>?_) aE k;simp[List.getD_eq_getElem?_getD,List.getElem?_replicate];split<;>simp
     obtain⟨M,aL⟩:=ex (k*ns.length)
     rw[aL]at T;have aS:Hid (M<=1152921504606846976):=hid (by rw[<-aL];exact Nat.le_trans (Nat.mul_le_mul (show k<=1073741824 by omega) (show ns.length<=1073741824 by omega)) (by decide));have bq:=hid ak;have aY:=hid T;clear C bp aE ak T aL;go_upto_region 14 with fail;clear z0;go_loopw [6,57] (fun s6 s57 wr=>∃(j:Nat) (q:List Nat×Bool),j<=Lk.length/\s57=.int .i64 j/\s6=.bool q.2/\Hid (q=(Lk.take j).foldl (fun p i=>(Gr.succ ns i).foldl (dstep t.cn k) p) p/\KB f P wr/\Blk wr f 3 (icells q.1))) (fun _ s57 _=>Lk.length-(intOf s57).toNat)
     case atStart=>exact⟨0,p,by omega,rfl,rfl,hid ⟨rfl,I.out.2.1,I.out.2.2⟩⟩
     case round=>
      obtain⟨j,q,hj,rfl,rfl,J⟩:=hrel;obtain⟨U,bA⟩:∃U,U=wr:=⟨_,rfl⟩
      subst bA;by_cases hjl:j<Lk.length
      .have bi:(j:Int)<(Lk.length:Int):=by omega
       obtain⟨i,hi⟩:=ex (Lk[j])
       have aH:i<ns.length:=by rw[<-hi];exact bj.out _ (List.getElem_mem hjl)
       obtain⟨adk,rfl,hadk,y0⟩:=zae (aX.out _ J.out.2.1) hjl;rw[hi]at y0;have u:=an.out.below (J.out.2.1.below (B:=f) (Nat.le_refl _) (by have:=F.out;have:=g.out;omega));have g0:U.cell? ⟨gb,0,none⟩=some (.slice A ns.length c):=u.bg.cell 0;obtain⟨ad,ks,is,rfl,hN⟩:=u.at_.node aH;obtain⟨ka,kn,kc⟩:=ks;obtain⟨Y,bx,ic⟩:=is;have aV:ns[i]∈ns:=List.getElem_mem aH;obtain⟨a8,a2⟩:=hks _ aV;have aJ:Gr.succ ns i=ns[i].keys++ns[i].items:=by unfold Gr.succ;rw[List.getElem?_eq_getElem aH]
       have aQ:Hid (∀x∈ns[i].keys++ns[i].items,x<ns.length):=hid (hr _ aV);obtain⟨n,hn⟩:=ex (ns[i])
       rw[hn]at hN a8 a2 aJ aQ;obtain rfl:kn=n.keys.length:=hN.kn;obtain rfl:bx=n.items.length:=hN.inn;have x3:=hN.c3;have x4:=hN.c4;have bB:Hid ((Lk.take (j+1)).foldl (fun p i=>(Gr.succ ns i).foldl (dstep t.cn k) p) p=(n.keys++n.items).foldl (dstep t.cn k) q):=hid (by
        rw[zak _ _ hjl,List.foldl_append,<-J.out.1,hi,List.foldl_cons,List.foldl_nil,aJ])
       have ba:Hid (RowAt intL U f ka n.keys/\RowAt intL U f Y n.items):=hid ⟨hN.keys,hN.items⟩;have hinI:(i:Int)<(ns.length:Int):=by omega
       clear u hN aV aJ hn hi;go_upto_region 16 with fail;go_region_held3 (fun w'=>w'.cell? ⟨gb,0,none⟩=some (.slice (some ad) ns.length c)/\w'.cell? {block:=(ad.add (i*5)).block,off:=(ad.add (i*5)).off+3}=some (.slice ka n.keys.length kc)/\w'.cell? {block:=(ad.add (i*5)).block,off:=(ad.add (i*5)).off+4}=some (.slice Y n.items.length ic)) (go_keep) (fail);go_upto_region 17 with fail;clear x3 x4 g0 y0;obtain⟨O,ag⟩:=ex ((U.alloc (.cells #[.slice ka n.keys.length kc,.slice Y n.items.length ic] 34)).drew)
       obtain⟨lb,aM⟩:=ex U.heap.size
       have b5:Blk O lb 34 #[.slice ka n.keys.length kc,.slice Y n.items.length ic]:=by rw[<-ag,<-aM];exact(Blk.new _ _ _).drew
       have k5:KB f U O:=by rw[<-ag];exact((KB.refl _ _).alloc _).drewN 1
       have aC:Hid (f<lb/\f<=U.heap.size):=hid ⟨by have:=J.out.2.2.lt;omega,Nat.le_of_lt J.out.2.2.lt⟩;have am:Hid (KB f P O/\Blk O f 3 (icells q.1)/\Blk O lb 34 #[.slice ka n.keys.length kc,.slice Y n.items.length ic]):=hid ⟨J.out.2.1.trans k5,by rw[<-ag];exact(J.out.2.2.alloc _).drew,b5⟩;have au:Hid (RowAt intL O f ka n.keys/\RowAt intL O f Y n.items):=hid ⟨ba.out.1.below (k5.below (Nat.le_refl _) aC.out.2),ba.out.2.below (k5.below (Nat.le_refl _) aC.out.2)⟩;rw[ag,aM];clear ag b5 k5 aM;go_loopw [6,75] (fun s6 s75 wr=>∃(r:Nat) (q2:List Nat×Bool),r<=2/\s75=.int .i64 r/\s6=.bool q2.2/\Hid (q2=(if r=0 then[]else if r=1 then n.keys else n.keys++n.items).foldl (dstep t.cn k) q/\KB f O wr/\Blk wr f 3 (icells q2.1)/\Blk wr lb 34 #[.slice ka n.keys.length kc,.slice Y n.items.length ic])) (fun _ s75 _=>2-(intOf s75).toNat)
       case atStart=>exact⟨0,q,by omega,rfl,rfl,hid ⟨rfl,KB.refl _ _,am.out.2⟩⟩
       case round=>
        obtain⟨r,q2,hr2,rfl,rfl,HR⟩:=hrel;obtain⟨wx,bF⟩:∃wx,wx=wr:=⟨_,rfl⟩
        subst bF;by_cases hrl:r<2
        .have bn:(r:Int)<2:=by omega
         obtain⟨Ax,G,cx,e1,HX⟩:∃Ax G cx,wx.cell? ⟨lb,r,none⟩=some (.slice Ax (G:List Nat).length cx)/\Hid (RowAt intL O f Ax G/\(if r+1=0 then[]else if r+1=1 then n.keys else n.keys++n.items)=(if r=0 then[]else if r=1 then n.keys else n.keys++n.items)++G/\(∀x∈G,x<ns.length)/\G.length<=1073741823):=by
          obtain rfl|rfl:r=0\/r=1:=by omega
          .exact⟨ka,n.keys,kc,HR.out.2.2.2.cell 0,hid ⟨au.out.1,by simp,fun x hx=>aQ.out x (List.mem_append_left _ hx),a8⟩⟩
          .exact⟨Y,n.items,ic,HR.out.2.2.2.cell 1,hid ⟨au.out.2,by simp,fun x hx=>aQ.out x (List.mem_append_right _ hx),a2⟩⟩
         have hxl:=HX.out.2.2.2;go_upto_region 20 with fail;clear e1;go_loopw [6,81] (fun s6 s81 wr=>∃(y:Nat) (q3:List Nat×Bool),y<=G.length/\s81=.int .i64 y/\s6=.bool q3.2/\Hid (q3=(G.take y).foldl (dstep t.cn k) q2/\KB f O wr/\Blk wr f 3 (icells q3.1)/\Blk wr lb 34 #[.slice ka n.keys.length kc,.slice Y n.items.length ic])) (fun _ s81 _=>G.length-(intOf s81).toNat)
         case atStart=>exact⟨0,q2,by omega,rfl,rfl,hid ⟨rfl,HR.out.2⟩⟩
         case round=>
          obtain⟨y,q3,hy,rfl,rfl,S⟩:=hrel;by_cases hyl:y<G.length
          .have bd:(y:Int)<(G.length:Int):=by omega
           obtain⟨x,hx⟩:=ex (G[y])
           have bl:x<ns.length:=by rw[<-hx];exact HX.out.2.2.1 _ (List.getElem_mem hyl)
           have N:Below f O wr:=S.out.2.1.below (Nat.le_refl _) (Nat.le_of_lt am.out.2.1.lt);obtain⟨adx,rfl,hadx,y0⟩:=zae (HX.out.1.below N) hyl;rw[hx]at y0;obtain⟨ah,Q⟩:=az.out x bl;obtain⟨d,Z⟩:∃d:Nat,t.cn x=(d:Int):=⟨(t.cn x).toNat,by omega⟩
           rw[Z,HM.out]at Q;have bJ:(d:Int)<(m:Int):=by omega
           have ay:=(an.out.below (am.out.1.below (B:=f) (Nat.le_refl _) (by have:=F.out;have:=g.out;omega))).below N;have r0:wr.cell? ⟨rC,x,none⟩=some (.int .i64 (d:Int)):=by
            rw[ay.bc.cell,zb3 (by rw[ax.out];exact bl),<-zvn,Z]
           have hxnI:(x:Int)<(ns.length:Int):=by omega
           have a4:Hid ((G.take (y+1)).foldl (dstep t.cn k) q2=dstep t.cn k q3 x):=hid (by rw[zak _ _ hyl,List.foldl_append,<-S.out.1,hx];rfl);have hyb:y<=1073741823:=by omega
           by_cases hdk:d=k
           .have a3:((k:Int)==(k:Int))=true:=by simp
            rw[hdk]at r0;have s:Hid ((q3.1,false)=(G.take (y+1)).foldl (dstep t.cn k) q2/\KB f O wr/\Blk wr f 3 (icells q3.1)/\Blk wr lb 34 #[.slice ka n.keys.length kc,.slice Y n.items.length ic]):=hid ⟨by rw[a4.out];unfold dstep;rw[if_pos (by rw[Z,hdk])],S.out.2⟩;clear ay N Z ah Q hx hdk;go_wp2;go_roundw
            case rel=>exact⟨y+1,(q3.1,false),by omega,by go_num,rfl,s⟩
            case measure=>simp[intOf];omega
           .have a3:((d:Int)==(k:Int))=false:=by simp;omega
            have bo:¬(d:Int)=(k:Int):=by omega
            obtain⟨a,ha⟩:=ex (q3.1.getD k 0)
            obtain⟨b,hb⟩:=ex (q3.1.getD d 0)
            have bS:q3.1.length=m:=by rw[S.out.1,ze5,HR.out.1,ze5,J.out.1,zdz];exact bq.out
            have ac:Sml M q3:=by rw[S.out.1];refine Sml.fold _ ?_;rw[HR.out.1];refine Sml.fold _ ?_;rw[J.out.1];exact Sml.foldM _ _ aY.out
            have a9:a<=1152921504606846976:=by have:=ac k;have:=aS.out;omega
            have bu:b<=1152921504606846976:=by have:=ac d;have:=aS.out;omega
            have z1:wr.cell? ⟨f,k,none⟩=some (.int .i64 (a:Int)):=by rw[S.out.2.2.1.cell,zad (by omega),ha]
            have z2:wr.cell? ⟨f,d,none⟩=some (.int .i64 (b:Int)):=by rw[S.out.2.2.1.cell,zad (by omega),hb]
            have zf:∀j,wr.frozen? ⟨f,j,none⟩=false:=S.out.2.2.1.frozen;have s:∀v:Nat,v=max a b->Hid ((q3.1.set k v,q3.2)=(G.take (y+1)).foldl (dstep t.cn k) q2/\KB f O (wr.setCell ⟨f,k,none⟩ (.int .i64 (v:Int))).drew/\Blk (wr.setCell ⟨f,k,none⟩ (.int .i64 (v:Int))).drew f 3 (icells (q3.1.set k v))/\Blk (wr.setCell ⟨f,k,none⟩ (.int .i64 (v:Int))).drew lb 34 #[.slice ka n.keys.length kc,.slice Y n.items.length ic]):=fun v hv=>hid ⟨by rw[a4.out];unfold dstep;rw[if_neg (by rw[Z];exact bo),Z,ha,show((d:Int)).toNat=d from by omega,hb,hv],(S.out.2.1.set _ _).drewN 1,by rw[<-zaw];exact(S.out.2.2.1.set_ k _).drew,(S.out.2.2.2.far (by have:=aC.out;simp;omega) _).drew⟩
            have aG:=hid s;clear ay N Z ah Q hx hdk s bS ac ha hb;go_upto_region 24 with fail;by_cases hmx:a<b
            all_goals go_region
            all_goals go_wp2_with fail
            all_goals
             go_roundw
             case rel=>first| (rw[show max (a:Int) (b:Int)=((max a b:Nat):Int)from by omega];exact⟨y+1,(q3.1.set k (max a b),q3.2),by omega,by go_num,rfl,aG.out (max a b) rfl⟩)|exact⟨y+1,(q3.1.set k a,q3.2),by omega,by go_num,rfl,aG.out a (by omega)⟩|exact⟨y+1,(q3.1.set k b,q3.2),by omega,by go_num,rfl,aG.out b (by omega)⟩
             case measure=>simp[intOf];omega
          .have bd:¬(y:Int)<(G.length:Int):=by omega
           have s:Hid (q3=(if r+1=0 then[]else if r+1=1 then n.keys else n.keys++n.items).foldl (dstep t.cn k) q/\KB f O wr/\Blk wr f 3 (icells q3.1)/\Blk wr lb 34 #[.slice ka n.keys.length kc,.slice Y n.items.length ic]):=hid ⟨by
            rw[HX.out.2.1,List.foldl_append,<-HR.out.1];have:=S.out.1;rwa[show y=G.length from by omega,List.take_length]at this,S.out.2⟩
           go_wp2;go_roundw
           case rel=>exact⟨r+1,q3,by omega,by go_num,rfl,s⟩
           case measure=>simp[intOf];omega
        .have bn:¬(r:Int)<2:=by omega
         have s:Hid (q2=(Lk.take (j+1)).foldl (fun p i=>(Gr.succ ns i).foldl (dstep t.cn k) p) p/\KB f P wx/\Blk wx f 3 (icells q2.1)):=hid ⟨by
          have:=HR.out.1;rw[show r=2 from by omega]at this;rw[bB.out];exact this,am.out.1.trans HR.out.2.1,HR.out.2.2.1⟩
         go_wp2;go_roundw
         case rel=>exact⟨j+1,q2,by omega,by go_num,rfl,s⟩
         case measure=>simp[intOf];omega
      .have bi:¬(j:Int)<(Lk.length:Int):=by omega
       obtain⟨a,ha⟩:=ex (q.1.getD k 0)
       obtain⟨b,hb⟩:=ex (t.sizes.getD k 0)
       have hq:q=Lk.foldl (fun p i=>(Gr.succ ns i).foldl (dstep t.cn k) p) p:=by
        have:=J.out.1;rwa[show j=Lk.length from by omega,List.take_length]at this
       have bQ:q.1.length=m:=by rw[hq,zdz];exact bq.out
       have a9:a<=1152921504606846976:=by
        have h1:Sml M q:=by rw[hq];exact Sml.foldM _ _ aY.out
        have:=h1 k;have:=aS.out;omega
       have bu:b<=1073741823:=by have:=bt.out k;omega
       have u:=an.out.below (J.out.2.1.below (B:=f) (Nat.le_refl _) (by have:=F.out;have:=g.out;omega));have aB:k<t.sizes.length:=by rw[HM.out];exact hlt
       have a6:t.sizes[k]=b:=by rw[<-hb];simp[List.getD_eq_getElem?_getD,List.getElem?_eq_getElem aB]
       obtain⟨adz,rfl,hadz,z2⟩:=zae u.rz aB;rw[a6]at z2;have z1:U.cell? ⟨f,k,none⟩=some (.int .i64 (a:Int)):=by rw[J.out.2.2.cell,zad (by omega),ha]
       have zf:∀j,U.frozen? ⟨f,j,none⟩=false:=J.out.2.2.frozen;have s:Hid ((q.1.set k (a+b),q.2)=(List.range (k+1)).foldl (dcomp (Gr.succ ns) t.cn ns.length t.sizes) (List.replicate m 0,true)/\KB f P (U.setCell ⟨f,k,none⟩ (.int .i64 ((a:Int)+(b:Int)))).drew/\Blk (U.setCell ⟨f,k,none⟩ (.int .i64 ((a:Int)+(b:Int)))).drew f 3 (icells (q.1.set k (a+b)))):=hid ⟨by
        rw[List.range_succ,List.foldl_append,<-I.out.1,List.foldl_cons,List.foldl_nil,bk.out,<-hq,ha,hb],(J.out.2.1.set _ _).drewN 1,by
        rw[<-zaw,show(((a+b:Nat)):Int)=(a:Int)+(b:Int)from by omega];exact(J.out.2.2.set_ k _).drew⟩
       clear ha hb hq bQ u a6 aB;go_upto_region 28 with fail;go_region
       all_goals go_wp2_with fail
       all_goals
        go_roundw
        case rel=>exact⟨k+1,(q.1.set k (a+b),q.2),by omega,by go_num,rfl,s⟩
        case measure=>simp[intOf];omega
    .have K:¬(k:Int)<(m:Int):=by omega
     have aD:k=m:=by omega
     have u:=an.out.below (I.out.2.1.below (B:=f) (Nat.le_refl _) (by have:=F.out;have:=g.out;omega));obtain⟨ah,Q⟩:=az.out root hroot;obtain⟨d,Z⟩:∃d:Nat,t.cn root=(d:Int):=⟨(t.cn root).toNat,by omega⟩
     rw[Z,HM.out]at Q;have bJ:(d:Int)<(m:Int):=by omega
     have r0:wq.cell? ⟨rC,root,none⟩=some (.int .i64 (d:Int)):=by
      rw[u.bc.cell,zb3 (by rw[ax.out];exact hroot),<-zvn,Z]
     have g1:wq.cell? ⟨gb,1,none⟩=some (.int .i64 root):=u.bg.cell 1;obtain⟨a,ha⟩:=ex (p.1.getD d 0)
     have ak:p.1.length=m:=by rw[I.out.1,zf8];simp
     have z0:wq.cell? ⟨f,d,none⟩=some (.int .i64 (a:Int)):=by rw[I.out.2.2.cell,zad (by omega),ha]
     have T:Sml (m*ns.length) p:=by
      rw[I.out.1,<-aD];refine Sml.comps (fun j=>?_) (fun j=>?_) k
      .simp[List.getD_eq_getElem?_getD,List.getElem?_replicate];split<;>simp
      .by_cases hj:j<t.sizes.length
       .rw[HC.out.cnt j hj];exact Nat.le_trans List.countP_le_length (by simp)
       .simp[List.getD_eq_getElem?_getD,List.getElem?_eq_none (Nat.le_of_not_lt hj)]
     have a9:a<=1152921504606846976:=by
      have:=T d;have h2:m*ns.length<=1152921504606846976:=Nat.le_trans (Nat.mul_le_mul (show m<=1073741824 by omega) (show ns.length<=1073741824 by omega)) (by decide);omega
     have ar:Hid ((depth ns root).1=(a:Int)-1/\(depth ns root).2=p.2):=hid (by
      have hp:p=dall (Gr.succ ns) t.cn ns.length t.sizes:=by rw[I.out.1,aD];unfold dall;rw[HM.out]
      unfold depth;simp only[HT.out];rw[<-hp,Z,<-ha];exact⟨rfl,rfl⟩)
     have bN:Hid (Below w.heap.size w wq):=hid (F.out.1.trans (I.out.2.1.below (by have:=g.out;omega) (by have:=g.out;have:=F.out;omega)));clear aD u ah Q Z ha ak T;go_wp2;go_ret2;rw[ar.out.1,ar.out.2];exact⟨rfl,bN.out⟩
namespace Gr
structure Ni where
 kind:Int
 text:Str
 ord:Bool
 keys:List Int
 items:List Int
def Ni.nd (x:Ni):Nd:=⟨x.kind,x.text,x.ord,x.keys.map Int.toNat,x.items.map Int.toNat⟩
def inR (n:Nat) (x:Int):Bool:=decide (0<=x) && decide (x<(n:Int))
def rng (n:Nat) (x:Ni):Bool:=(x.keys++x.items).all (inR n)
def indB (is:List Ni) (root:Int):Bool:=inR is.length root && is.all (rng is.length)
end Gr
open Go.RowKit
theorem zsk (l:List Int) (h0:∀x∈l,0<=x):intL.all (l.map Int.toNat)=intI.all l:=by
 induction l with
 |nil=>rfl
 |cons x l ih=>
  have b:intI.all (x::l)=intI.enc x++intI.all l:=rfl;have c:intL.all (x.toNat::l.map Int.toNat)=intL.enc x.toNat++intL.all (l.map Int.toNat):=rfl;have hx:=h0 x (.head _);rw[List.map_cons,b,c,ih (fun y a=>h0 y (.tail _ a))];show[Value.int .i64 ((x.toNat:Nat):Int)]++_=[Value.int .i64 x]++_;rw[show((x.toNat:Nat):Int)=x from by omega]
theorem zkx {w:World} {B:Nat} {A:Option Addr} {l:List Int} (h:RowAt intI w B A l) (h0:∀x∈l,0<=x):RowAt intL w B A (l.map Int.toNat):=by
 unfold RowAt at h ⊢;rw[zsk l h0,List.length_map];exact h
theorem ze7 {w:World} {B:Nat} {A:Option Addr} {l:List Int} {k:Nat} (h:RowAt intI w B A l) (hk:k<l.length):∃ad,A=some ad/\ad.block<B/\w.cell? (ad.add k)=some (.int .i64 l[k]):=by
 obtain⟨ad,b,a,c,_⟩:=h.get hk;refine⟨ad,b,a,?_⟩;have:=c (.int .i64 l[k]) rfl;rwa[show k*intI.sz=k from Nat.mul_one k]at this
structure IAt (w:World) (B:Nat) (A:Option Addr) (vs:List NV) (ns:List Gr.Ni):Prop where
 row:RowAt nodeL w B A vs
 len:vs.length=ns.length
 kind:∀j (h:j<vs.length) (h2:j<ns.length),vs[j].kind=ns[j].kind/\vs[j].text=ns[j].text/\vs[j].ord=ns[j].ord
 nums:∀j (h:j<vs.length) (h2:j<ns.length),RowAt intI w B vs[j].k.a ns[j].keys/\vs[j].k.n=ns[j].keys.length/\RowAt intI w B vs[j].i.a ns[j].items/\vs[j].i.n=ns[j].items.length
theorem IAt.below {w w':World} {B:Nat} {A:Option Addr} {vs:List NV} {ns:List Gr.Ni} (h:IAt w B A vs ns) (hb:Below B w w'):IAt w' B A vs ns:=
 ⟨h.row.below hb,h.len,h.kind,fun j f e=>let⟨a,b,c,d⟩:=h.nums j f e;⟨a.below hb,b,c.below hb,d⟩⟩
theorem IAt.more {w:World} {B B':Nat} {A:Option Addr} {vs:List NV} {ns:List Gr.Ni} (h:IAt w B A vs ns) (hB:B<=B'):IAt w B' A vs ns:=
 ⟨h.row.more hB,h.len,h.kind,fun j f e=>let⟨a,b,c,d⟩:=h.nums j f e;⟨a.more hB,b,c.more hB,d⟩⟩
theorem IAt.toG {w:World} {B:Nat} {A:Option Addr} {vs:List NV} {ns:List Gr.Ni} (h:IAt w B A vs ns) (h0:∀x∈ns,∀y∈x.keys++x.items,0<=y):GAt w B A vs (ns.map Gr.Ni.nd):=by
 refine⟨h.row,by simp[h.len],fun j f e=>?_,fun j f e=>?_⟩
 .rw[List.length_map]at e;rw[List.getElem_map];exact h.kind j f e
 .rw[List.length_map]at e;rw[List.getElem_map];obtain⟨a,b,c,d⟩:=h.nums j f e;have i:=h0 _ (List.getElem_mem e);exact⟨zkx a (fun y g=>i y (List.mem_append_left _ g)),by rw[b];simp[Gr.Ni.nd],zkx c (fun y g=>i y (List.mem_append_right _ g)),by rw[d];simp[Gr.Ni.nd]⟩
theorem za8 {is:List Gr.Ni} (h:is.all (rng is.length)=true):(∀x∈is,∀y∈x.keys++x.items,0<=y)/\Refs (is.map Gr.Ni.nd):=by
 have c:∀x∈is,∀y∈x.keys++x.items,0<=y/\y<(is.length:Int):=by
  intro x a y b;have:=List.all_eq_true.1 (List.all_eq_true.1 h x a) y b;simpa[inR]using this
 refine⟨fun x a y b=>(c x a y b).1,fun x a r d=>?_⟩;obtain⟨y,b,rfl⟩:=List.mem_map.1 a;rw[List.length_map];rw[Gr.Ni.nd,<-List.map_append]at d;obtain⟨z,e,rfl⟩:=List.mem_map.1 d;have:=c y b z e;omega
theorem IAt.node {w:World} {B:Nat} {A:Option Addr} {vs:List NV} {ns:List Gr.Ni} (h:IAt w B A vs ns) {j:Nat} (hj:j<ns.length):∃(ad:Addr) (k i:SV),A=some ad/\ad.block<B/\w.cell? (ad.add (j*5))=some (.int .i64 ns[j].kind)/\w.cell? {block:=(ad.add (j*5)).block,off:=(ad.add (j*5)).off+1}=some (.string ⟨ns[j].text.toArray⟩)/\w.cell? {block:=(ad.add (j*5)).block,off:=(ad.add (j*5)).off+2}=some (.bool ns[j].ord)/\
 w.cell? {block:=(ad.add (j*5)).block,off:=(ad.add (j*5)).off+3}=some (.slice k.a k.n k.c)/\w.cell? {block:=(ad.add (j*5)).block,off:=(ad.add (j*5)).off+4}=some (.slice i.a i.n i.c)/\RowAt intI w B k.a ns[j].keys/\k.n=ns[j].keys.length/\RowAt intI w B i.a ns[j].items/\i.n=ns[j].items.length:=by
 have b:j<vs.length:=by rw[h.len];exact hj
 obtain⟨ad,l,r,d,f,e,m,t⟩:=zot h.row b;obtain⟨u,g,o⟩:=h.kind j b hj;obtain⟨s,p,q,v⟩:=h.nums j b hj;rw[u]at d;rw[g]at f;rw[o]at e;exact⟨ad,vs[j].k,vs[j].i,l,r,d,f,e,m,t,s,p,q,v⟩
theorem zb4 {α:Type} (f:α->Bool) (l:List α) (k:Nat) (h:k<l.length):(l.take (k+1)).all f=((l.take k).all f && f l[k]):=by
 rw[List.take_succ_eq_append_getElem h,List.all_append];simp
theorem ze8 (A:Option Addr) (c:Nat) (root:Int) (vs:List NV) (ns:List Gr.Ni) (hl:ns.length<=1073741823) (hks:∀n∈ns,n.keys.length<=1073741823/\n.items.length<=1073741823) (w:World) (h:IAt w w.heap.size A vs ns):
 Calls prog 24 #[.agg #[.slice A ns.length c,.int .i64 root]] w fun e w'=>e=.returned (.bool (indB ns root))/\Below w.heap.size w w':=by
 have H:=hid h;obtain⟨E,d⟩:=ex (inR ns.length root)
 have s:=hid d;unfold inR at d;clear h;go_enter func24,ntmps24;go_upto_region 1 with fail;go_cut [3] (fun s3 wx=>s3=.bool E/\∃w1,w1=wx/\w1=w.alloc (.cells #[.slice A ns.length c,.int .i64 root] 24))
 case first=>
  by_cases h1:0<=root
  .by_cases h2:root<(ns.length:Int)
   .obtain rfl:E=true:=by rw[<-d];simp[h1,h2]
    clear d s;go_wp2;go_meet;exact⟨rfl,_,rfl,rfl⟩
   .obtain rfl:E=false:=by rw[<-d];simp[h2]
    clear d s;go_wp2;go_meet;exact⟨rfl,_,rfl,rfl⟩
  .obtain rfl:E=false:=by rw[<-d];simp[h1]
   clear d s;go_wp2;go_meet;exact⟨rfl,_,rfl,rfl⟩
 case rest=>
  obtain⟨rfl,w1,rfl,C⟩:=hcut;have l1:Below w.heap.size w w1:=by rw[C];exact(Below.refl _ _).alloc (Nat.le_refl _) _
  have X:Blk w1 w.heap.size 24 #[.slice A ns.length c,.int .i64 root]:=by rw[C];exact Blk.new _ _ _
  have W:w1.cell? ⟨w.heap.size,0,none⟩=some (.slice A ns.length c):=X.cell 0;obtain⟨I,m⟩:=ex w.heap.size
  have HGB:=hid m;have L1:=hid l1;have u:=hid X;have H1:=hid (H.out.below l1);rw[m]at W u H1;(try rw[m]);have v:Hid (I<w1.heap.size):=hid u.out.lt;clear C l1 X m d;go_upto_region 3 with fail;clear W;go_loopw [3,24] (fun s3 s24 wr=>∃(j:Nat) (b:Bool),j<=ns.length/\s24=.int .i64 j/\s3=.bool b/\Hid (b=(E && (ns.take j).all (rng ns.length))/\Below w1.heap.size w1 wr)) (fun _ s24 _=>ns.length-(intOf s24).toNat)
  case atStart=>exact⟨0,E,by omega,rfl,rfl,hid ⟨by simp,Below.refl _ _⟩⟩
  case round=>
   obtain⟨j,b,hj,rfl,rfl,k⟩:=hrel;obtain⟨f,ab⟩:∃f,f=wr:=⟨_,rfl⟩
   subst ab;by_cases hlt:j<ns.length
   .have Q:(j:Int)<(ns.length:Int):=by omega
    obtain⟨ad,ks,is,rfl,S,c0,c1,c2,c3,c4,r1,r2,Z,r4⟩:=(H1.out.below (k.out.2.mono (by have:=v.out;omega))).node hlt;obtain⟨G,kn,J⟩:=ks;obtain⟨D,aa,K⟩:=is;have V:ns[j]∈ns:=List.getElem_mem hlt;obtain⟨L,O⟩:=hks _ V;have T:Hid ((ns.take (j+1)).all (rng ns.length)=((ns.take j).all (rng ns.length) && (ns[j].keys++ns[j].items).all (inR ns.length))):=hid (by rw[zb4 _ _ _ hlt];rfl);obtain⟨n,hn⟩:=ex (ns[j])
    rw[hn]at c0 c1 c2 r1 r2 Z r4 L O T;obtain rfl:kn=n.keys.length:=r2;obtain rfl:aa=n.items.length:=r4;have W:f.cell? ⟨I,0,none⟩=some (.slice (some ad) ns.length c):=(u.out.below k.out.2 v.out).cell 0;have B:=hid (And.intro r1 Z);have o:Hid (I<f.heap.size/\w1.heap.size<=f.heap.size):=hid ⟨by have:=k.out.2.size;have:=v.out;omega,k.out.2.size⟩;clear r1 Z V hn S;go_upto_region 5 with fail;obtain⟨F,q⟩:=ex (f.alloc (.cells #[.int .i64 n.kind,.string ⟨n.text.toArray⟩,.bool n.ord,.slice G n.keys.length J,.slice D n.items.length K] 36))
    have Y:Blk F f.heap.size 36 #[.int .i64 n.kind,.string ⟨n.text.toArray⟩,.bool n.ord,.slice G n.keys.length J,.slice D n.items.length K]:=by rw[<-q];exact Blk.new _ _ _
    have l5:Below f.heap.size f F:=by rw[<-q];exact(Below.refl _ _).alloc (Nat.le_refl _) _
    have s3:F.cell? ⟨f.heap.size,3,none⟩=some (.slice G n.keys.length J):=Y.cell 3;have s4:F.cell? ⟨f.heap.size,4,none⟩=some (.slice D n.items.length K):=Y.cell 4;(try rw[q]);have L5:=hid l5;clear q Y l5 c0 c1 c2 c3 c4 W;go_upto_region 6 with fail;obtain⟨i,t⟩:=ex (F.alloc (.cells #[.slice G n.keys.length J,.slice D n.items.length K] 34))
    have b6:Blk i F.heap.size 34 #[.slice G n.keys.length J,.slice D n.items.length K]:=by rw[<-t];exact Blk.new _ _ _
    have P:Below f.heap.size f i:=by rw[<-t];exact L5.out.alloc L5.out.size _
    (try rw[t]);have R:=hid b6;have W:i.cell? ⟨I,0,none⟩=some (.slice (some ad) ns.length c):=((u.out.below k.out.2 v.out).below P o.out.1).cell 0;have N:Hid (RowAt intI i I G n.keys/\RowAt intI i I D n.items):=hid ⟨B.out.1.below (P.mono (by have:=o.out;omega)),B.out.2.below (P.mono (by have:=o.out;omega))⟩;have L6:Hid (Below w1.heap.size w1 i):=hid (k.out.2.trans (P.mono o.out.2));clear t b6 P s3 s4;go_loop [3,34] (fun s3 s34=>∃(r:Nat) (b2:Bool),r<=2/\s34=.int .i64 r/\s3=.bool b2/\Hid (b2=(b && (if r=0 then[]else if r=1 then n.keys else n.keys++n.items).all (inR ns.length)))) (fun _ s34=>2-(intOf s34).toNat)
    case atStart=>exact⟨0,b,by omega,rfl,rfl,hid (by simp)⟩
    case round=>
     obtain⟨r,b2,hr2,rfl,rfl,HR⟩:=hrel;by_cases hrl:r<2
     .have U:(r:Int)<2:=by omega
      obtain⟨Ax,a,cx,e1,HX⟩:∃Ax a cx,i.cell? ⟨F.heap.size,r,none⟩=some (.slice Ax (a:List Int).length cx)/\Hid (RowAt intI i I Ax a/\(if r+1=0 then[]else if r+1=1 then n.keys else n.keys++n.items)=(if r=0 then[]else if r=1 then n.keys else n.keys++n.items)++a/\a.length<=1073741823):=by
       obtain rfl|rfl:r=0\/r=1:=by omega
       .exact⟨G,n.keys,J,R.out.cell 0,hid ⟨N.out.1,by simp,L⟩⟩
       .exact⟨D,n.items,K,R.out.cell 1,hid ⟨N.out.2,by simp,O⟩⟩
      have hxl:=HX.out.2.2;go_upto_region 9 with fail;clear e1;go_loop [3,40] (fun s3 s40=>∃(y:Nat) (b3:Bool),y<=a.length/\s40=.int .i64 y/\s3=.bool b3/\Hid (b3=(b2 && (a.take y).all (inR ns.length)))) (fun _ s40=>a.length-(intOf s40).toNat)
      case atStart=>exact⟨0,b2,by omega,rfl,rfl,hid (by simp)⟩
      case round=>
       obtain⟨y,b3,hy,rfl,rfl,l⟩:=hrel;by_cases hyl:y<a.length
       .have M:(y:Int)<(a.length:Int):=by omega
        obtain⟨x,hx⟩:=ex (a[y])
        obtain⟨adx,rfl,hadx,y0⟩:=ze7 HX.out.1 hyl;rw[hx]at y0;have p:Hid ((a.take (y+1)).all (inR ns.length)=((a.take y).all (inR ns.length) && (decide (0<=x) && decide (x<(ns.length:Int))))):=hid (by rw[zb4 _ _ _ hyl,hx];rfl);clear hx;cases b3 with
        |false=>
         have g:Hid (false=(b2 && (a.take (y+1)).all (inR ns.length))):=hid (by rw[p.out,<-Bool.and_assoc,<-l.out];rfl);clear l;go_wp2;go_round
         case rel=>exact⟨y+1,false,by omega,by go_num,rfl,g⟩
         case measure=>simp[intOf];omega
        |true=>
         by_cases h1:0<=x
         .by_cases h2:x<(ns.length:Int)
          .have g:Hid (true=(b2 && (a.take (y+1)).all (inR ns.length))):=hid (by rw[p.out,<-Bool.and_assoc,<-l.out];simp[h1,h2]);clear l;go_wp2;go_round
           case rel=>exact⟨y+1,true,by omega,by go_num,rfl,g⟩
           case measure=>simp[intOf];omega
          .have g:Hid (false=(b2 && (a.take (y+1)).all (inR ns.length))):=hid (by rw[p.out,<-Bool.and_assoc,<-l.out];simp[h2]);clear l;go_wp2;go_round
           case rel=>exact⟨y+1,false,by omega,by go_num,rfl,g⟩
           case measure=>simp[intOf];omega
         .have g:Hid (false=(b2 && (a.take (y+1)).all (inR ns.length))):=hid (by rw[p.out,<-Bool.and_assoc,<-l.out];simp[h1]);clear l;go_wp2;go_round
          case rel=>exact⟨y+1,false,by omega,by go_num,rfl,g⟩
          case measure=>simp[intOf];omega
       .have M:¬(y:Int)<(a.length:Int):=by omega
        have g:Hid (b3=(b && (if r+1=0 then[]else if r+1=1 then n.keys else n.keys++n.items).all (inR ns.length))):=hid (by
         rw[HX.out.2.1,List.all_append,<-Bool.and_assoc,<-HR.out];have:=l.out;rwa[show y=a.length from by omega,List.take_length]at this)
        go_wp2;go_round
        case rel=>exact⟨r+1,b3,by omega,by go_num,rfl,g⟩
        case measure=>simp[intOf];omega
     .have U:¬(r:Int)<2:=by omega
      have g:Hid (b2=(E && (ns.take (j+1)).all (rng ns.length))/\Below w1.heap.size w1 i):=hid ⟨by
       have:=HR.out;rw[show r=2 from by omega]at this;rw[T.out,<-Bool.and_assoc,<-k.out.1];exact this,L6.out⟩
      go_wp2;go_roundw
      case rel=>exact⟨j+1,b2,by omega,by go_num,rfl,g⟩
      case measure=>simp[intOf];omega
   .have Q:¬(j:Int)<(ns.length:Int):=by omega
    have z:Hid (indB ns root=b/\Below w.heap.size w f):=hid ⟨by
     have:=k.out.1;rw[show j=ns.length from by omega,List.take_length]at this;unfold indB;rw[s.out,this],L1.out.trans (k.out.2.mono L1.out.size)⟩
    go_wp2;go_ret;rw[z.out.1];exact⟨rfl,z.out.2⟩
abbrev SK:=Int×Gr.Str
def skv (k:SK):Value:=.agg #[.int .i64 k.1,.string ⟨k.2.toArray⟩]
theorem zid:(prog.fieldsOf 70).toList.map (fun f=>(f.name,f.type,f.offset))=[("Index",3,0),("Key",9,1)]:=by kernel_rfl
theorem zoz:prog.underlying 70=some (.struct (prog.fieldsOf 70)):=by kernel_rfl
theorem zsl:prog.stoodInHeld 70=false:=by kernel_rfl
theorem zie:prog.plainKey 3=true:=by kernel_rfl
theorem zif:prog.plainKey 9=true:=by kernel_rfl
theorem zxp (a b:SK) (w:World):(Op.equal 70 (skv a) (skv b)).run prog w=.ok (a==b) w:=by
 unfold Op.equal Op.maxDepth skv;rw[run_equalIn_struct w 9999 70 _ _ zoz zsl];have c:=zid;obtain⟨i,d⟩:=ex ((prog.fieldsOf 70).toList)
 rw[d]at c ⊢;obtain⟨f,g,rfl⟩:∃f g,i=[f,g]:=by
  rcases i with _|⟨f,_|⟨g,_|⟨h,r⟩⟩⟩
  .simp at c
  .simp at c
  .exact⟨f,g,rfl⟩
  .simp at c
 simp only[List.map_cons,List.map_nil,List.cons.injEq,Prod.mk.injEq,and_true]at c;obtain⟨⟨m,k,q⟩,p,l,o⟩:=c;simp only[Op.eqFields,m,p,k,l,q,o];have n:∀(x y:Value),(part 3 #[x,y] 0).run prog w=.ok x w:=fun x y=>run_part_plain w zie rfl
 have j:∀(x y:Value),(part 9 #[x,y] 1).run prog w=.ok y w:=fun x y=>run_part_plain w zif rfl
 have e:(a==b)=((a.1==b.1) && (a.2==b.2)):=rfl;have e2:((⟨a.2.toArray⟩:ByteArray).toList==(⟨b.2.toArray⟩:ByteArray).toList)=(a.2==b.2):=by rw[ByteArray.toList_eq,ByteArray.toList_eq]
 rw[e];simp[n,j,run_equalIn_int w 9998 3 .i64 .i64 a.1 b.1 underlying3,run_equalIn_string w 9998 9 _ _ underlying9];by_cases h:a.1=b.1<;>by_cases h2:a.2=b.2<;>simp[h,h2]
structure MapAt (w:World) (D b:Nat) (gl:List (SK×List Nat)) (vs:List Value) (es:Array MapEntry):Prop where
 blk:w.heap[b]? =some (.map es gl.length)
 lv:vs.length=gl.length
 le:es.size=gl.length
 at_:∀i (h:i<es.size) (h1:i<gl.length) (h2:i<vs.length),es[i]=⟨skv gl[i].1,vs[i],i⟩
 own:∀i (h1:i<vs.length) (h2:i<gl.length),OwnRow intL w D 3 vs[i] gl[i].2
 ap:∀i j (h1:i<vs.length) (h2:j<vs.length),i≠j->∀k,vs[i].ownBlock=some k->vs[j].ownBlock≠some k
 nd:(gl.map (·.1)).Nodup
 lo:b<D
 hd:D<=w.heap.size
theorem zo0 (em:Bool) (n:Nat) (k:SK) (w:World):(Instr.checkKey em (n+1+1) 70 (skv k)).run prog w=.ok () w:=by
 unfold skv;have a:=zid;have q:∀(x y:Value),(part 3 #[x,y] 0).run prog w=.ok x w:=fun x y=>run_part_plain w zie rfl
 have j:∀(x y:Value),(part 9 #[x,y] 1).run prog w=.ok y w:=fun x y=>run_part_plain w zif rfl
 have d:∀(x:Int),(Instr.checkKey em (n+1) 3 (.int .i64 x)).run prog w=.ok () w:=fun x=>by simp[Instr.checkKey,run_underlying underlying3]
 have e:∀(x:ByteArray),(Instr.checkKey em (n+1) 9 (.string x)).run prog w=.ok () w:=fun x=>by simp[Instr.checkKey,run_underlying underlying9]
 generalize hn:n+1=m at d e;rw[Instr.checkKey];simp only[Sem.run_bind,run_underlying zoz,Result.andThen_ok];rw[<-Array.forIn_toList];obtain⟨i,c⟩:=ex ((prog.fieldsOf 70).toList)
 rw[c]at a ⊢;obtain⟨f,g,rfl⟩:∃f g,i=[f,g]:=by
  rcases i with _|⟨f,_|⟨g,_|⟨h,r⟩⟩⟩
  .simp at a
  .simp at a
  .exact⟨f,g,rfl⟩
  .simp at a
 simp only[List.map_cons,List.map_nil,List.cons.injEq,Prod.mk.injEq,and_true]at a;obtain⟨⟨p,l,u⟩,t,o,s⟩:=a;simp[List.forIn_cons,p,l,u,t,o,s,q,j,d,e]
theorem zeo (em:Bool) (k:SK) (w:World):(Instr.checkKey em 10000 70 (skv k)).run prog w=.ok () w:=zo0 em 9998 k w
theorem zxq (k:SK) (W:World):∀(gl:List (SK×List Nat)) (vs:List Value) (es:List MapEntry) (m:Nat),es.length=gl.length->vs.length=gl.length->(∀i (h:i<es.length) (h1:i<gl.length) (h2:i<vs.length),es[i].key=skv gl[i].1/\es[i].val=vs[i])->
 (∃j,∃(h1:j<gl.length) (h2:j<vs.length),gl[j].1=k/\(Instr.findAsking 70 (skv k) es m).run prog W=.ok (some (m+j,vs[j])) W)\/((∀g∈gl,g.1≠k)/\(Instr.findAsking 70 (skv k) es m).run prog W=.ok none W):=by
 intro gl
 induction gl with
 |nil=>
  intro vs es m h1 h2 _;obtain rfl:=List.eq_nil_of_length_eq_zero h1;exact .inr ⟨by simp,by simp[Instr.findAsking]⟩
 |cons g gl ih=>
  intro vs es m h1 h2 o
  match es,vs,h1,h2 with
  |e::es,v::vs,h1,h2=>
   obtain⟨l,n⟩:=o 0 (by simp) (by simp) (by simp);simp only[List.getElem_cons_zero]at l n;by_cases hk:g.1=k
   .refine .inl ⟨0,by simp,by simp,by simpa using hk,?_⟩;simp[Instr.findAsking,l,zxp,hk,n]
   .have f:(k==g.1)=false:=by simpa using fun e=>hk e.symm
    have p:(Instr.findAsking 70 (skv k) (e::es) m).run prog W=(Instr.findAsking 70 (skv k) es (m+1)).run prog W:=by
     simp[Instr.findAsking,l,zxp,f]
    rw[p];rcases ih vs es (m+1) (by simpa using h1) (by simpa using h2) (fun i a b c=>by
     have:=o (i+1) (by simp;omega) (by simp;omega) (by simp;omega);simpa using this)with⟨j,a,b,c,d⟩|⟨a,b⟩
    .refine .inl ⟨j+1,by simp;omega,by simp;omega,by simpa using c,?_⟩;rw[d];simp;omega
    .grind
section
variable {w w2:World} {D b:Nat} {gl:List (SK×List Nat)} {vs:List Value} {es:Array MapEntry}
theorem MapAt.find (h:MapAt w D b gl vs es) (k:SK) (W:World):(∃j,∃(h1:j<gl.length) (h2:j<vs.length),gl[j].1=k/\(Instr.findKey 70 (skv k) es.toList).run prog W=.ok (some (j,vs[j])) W)\/((∀g∈gl,g.1≠k)/\(Instr.findKey 70 (skv k) es.toList).run prog W=.ok none W):=by
 rw[run_findKey_eq W (k:=70) (by rw[zoz])];have:=zxq k W gl vs es.toList 0 (by simpa using h.le) h.lv (fun i a h1 h2=>by
  have:=h.at_ i (by simpa using a) h1 h2;simp only[Array.getElem_toList,this];exact⟨trivial,trivial⟩)
 simpa using this
theorem MapAt.look (h:MapAt w D b gl vs es) (k:SK):(∃j,∃(h1:j<gl.length) (h2:j<vs.length),gl[j].1=k/\(Instr.lookup 68 (.map (some b)) (skv k) false).run prog w=.ok vs[j] w)\/((∀g∈gl,g.1≠k)/\(Instr.lookup 68 (.map (some b)) (skv k) false).run prog w=.ok (.slice none 0 0) w):=by
 rcases h.find k w with⟨j,h1,h2,a,c⟩|⟨h1,h2⟩
 .refine .inl ⟨j,h1,h2,a,?_⟩;simp[Instr.lookup,run_underlying underlying68,MapKept.run_getObj_map h.blk,zeo,c]
 .refine .inr ⟨h1,?_⟩;simp[Instr.lookup,run_underlying underlying68,MapKept.run_getObj_map h.blk,zeo,h2]
theorem Kept1.heap {w:World} {g:Nat} (o:Obj):Kept1 g w {w with heap:=w.heap.setIfInBounds g o}:=by
 refine⟨rfl,rfl,rfl,by simp,fun k a=>?_⟩;show(w.heap.setIfInBounds g o)[k]? =_;rw[Array.getElem?_setIfInBounds_ne (Ne.symm a)]
theorem zg1 {w:World} {g:Nat} {o o':Obj} (h:w.heap[g]? =some o):({w with heap:=w.heap.setIfInBounds g o'}:World).heap[g]? =some o':=by
 grind
theorem OwnRow.kept1 {α:Type} {L:Lay α} {w w':World} {base g:Nat} {E:TypeId} {v:Value} {l:List α} (h:OwnRow L w base E v l) (hk:Kept1 g w w') (hg:g<base):OwnRow L w' base E v l:=by
 have hlt:=h.lt;refine⟨h.1,h.2.imp id ?_⟩;rintro⟨e,a,d,i,c,f,r⟩;exact⟨e,a,d,i,c,(hk.block e (by omega)).trans f,r⟩
theorem MapAt.entry (h:MapAt w D b gl vs es) (k:SK):∃(w1:World) (gl1:List (SK×List Nat)) (vs1:List Value) (es1:Array MapEntry) (j:Nat),∃(h1:j<gl1.length) (h2:j<vs1.length),(Instr.mapEntry 68 (.map (some b)) (skv k)).run prog w=.ok (.tuple #[vs1[j],.int .i64 (j:Int)]) w1/\Kept1 b w w1/\MapAt w1 D b gl1 vs1 es1/\gl1[j].1=k/\
 (gl1=gl\/((∀g∈gl,g.1≠k)/\gl1=gl++[(k,[])])):=by
 rcases h.find k w with⟨j,h1,h2,r,y⟩|⟨h1,h2⟩
 .have f:j<es.size:=by rw[h.le];exact h1
  have n:(es[j]?.map (·.key)).getD (skv k)=skv k:=by
   rw[Array.getElem?_eq_getElem f,h.at_ j f h1 h2];simp[r]
  have hborn:(es[j]?.map (·.born)).getD 0=j:=by
   rw[Array.getElem?_eq_getElem f,h.at_ j f h1 h2];simp
  have m:(Instr.keyThatStays (skv k) (skv k)).run prog w=.ok (skv k) w:=by
   have:Instr.sameBits 10000 (skv k) (skv k)=true:=by
    show Instr.sameBits (9999+1) (skv k) (skv k)=true;unfold skv;rw[Instr.sameBits];simp[Instr.sameBits,(MapKept.bytes_beq _ _).2 rfl]
   simp[Instr.keyThatStays,this]
  have o:es.modify j (fun e=>{e with key:=skv k})=es:=by
   apply Array.ext
   .simp
   .intro i a c;rw[Array.getElem_modify];split
    .subst i;rw[h.at_ j f h1 h2,r]
    .rfl
  refine⟨{w with heap:=w.heap.setIfInBounds b (.map es gl.length)},gl,vs,es,j,h1,h2,?_,Kept1.heap _,?_,r,.inl rfl⟩
  .simp[Instr.mapEntry,run_underlying underlying68,MapKept.run_getObj_map h.blk,zeo,y,n,m,o,MapKept.run_setObj_map _ h.blk,goInt];rw[Array.getElem?_eq_getElem f,h.at_ j f h1 h2];simp
  .exact⟨zg1 h.blk,h.lv,h.le,h.at_,fun i a c=>(h.own i a c).kept1 (Kept1.heap _) h.lo,h.ap,h.nd,h.lo,by have:=h.hd;simpa using this⟩
 .have hb:=h.lo;refine⟨{w with heap:=w.heap.setIfInBounds b (.map (es.push ⟨skv k,.slice none 0 0,gl.length⟩) (gl.length+1))},gl++[(k,[])],vs++[.slice none 0 0],es.push ⟨skv k,.slice none 0 0,gl.length⟩,gl.length,by simp,by simp[h.lv],?_,Kept1.heap _,?_,by simp,.inr ⟨h1,rfl⟩⟩
  .have:(vs++[Value.slice none 0 0])[gl.length]'(by simp[h.lv])=.slice none 0 0:=by simp[<-h.lv]
   simp[Instr.mapEntry,run_underlying underlying68,MapKept.run_getObj_map h.blk,zeo,h2,MapKept.run_setObj_map _ h.blk,goInt,this]
  .refine⟨?_,by simp[h.lv],by simp[h.le],?_,?_,?_,?_,h.lo,by have:=h.hd;simpa using this⟩
   .rw[zg1 h.blk];simp
   .intro i a c d;simp only[Array.size_push,List.length_append,List.length_cons,List.length_nil,h.le]at a c d;by_cases hi:i<gl.length
    .rw[Array.getElem_push_lt (by rw[h.le];exact hi),h.at_ i (by rw[h.le];exact hi) hi (by rw[h.lv];exact hi),List.getElem_append_left hi,List.getElem_append_left (by rw[h.lv];exact hi)]
    .have l:i=gl.length:=by omega
     subst l;have x:(es.push ⟨skv k,.slice none 0 0,gl.length⟩)[gl.length]'(by simp[h.le])=⟨skv k,.slice none 0 0,gl.length⟩:=by
      simp[Array.getElem_push,h.le]
     rw[x];have q:(vs++[Value.slice none 0 0])[gl.length]'(by simp[h.lv])=.slice none 0 0:=by simp[<-h.lv]
     rw[q];simp
   .intro i a c;simp only[List.length_append,List.length_cons,List.length_nil]at a c;by_cases hi:i<gl.length
    .have t:i<vs.length:=by rw[h.lv];exact hi
     rw[List.getElem_append_left t,List.getElem_append_left hi];exact(h.own i t hi).kept1 (Kept1.heap _) h.lo
    .have l:i=gl.length:=by omega
     subst l;have q:(vs++[Value.slice none 0 0])[gl.length]'(by simp[h.lv])=.slice none 0 0:=by simp[<-h.lv]
     rw[q];simp only[List.getElem_concat_length];exact OwnRow.nil
   .intro i j a c p g e;simp only[List.length_append,List.length_cons,List.length_nil]at a c;by_cases hi:i<vs.length
    .rw[List.getElem_append_left hi]at e;by_cases hj:j<vs.length
     .rw[List.getElem_append_left hj];exact h.ap i j hi hj p g e
     .have f:j=vs.length:=by omega
      subst f;simp[Value.ownBlock]
    .have l:i=vs.length:=by omega
     subst l;simp[Value.ownBlock]at e
   .rw[List.map_append,List.nodup_append];refine⟨h.nd,by simp,?_⟩;intro a u c s;simp at s;subst s;obtain⟨g,v,rfl⟩:=List.mem_map.1 u;exact h1 g v
theorem MapAt.store (h:MapAt w D b gl vs es) {j:Nat} (h1:j<gl.length) (h2:j<vs.length) {v2:Value} {l:List Nat} (ho:OwnRow intL w2 D 3 v2 l) (hg:w.grownBy w2 (vs[j]).ownBlock) (hat:v2.ownBlock=(vs[j]).ownBlock\/v2.ownBlock=some w.heap.size):
 ∃w3 es3,(Instr.entryStore 68 (.map (some b)) (.int .i64 (j:Int)) v2).run prog w2=.ok () w3/\Kept1 b w2 w3/\MapAt w3 D b (gl.set j (gl[j].1,l)) (vs.set j v2) es3:=by
 have o:=h.lo;have hsz:=hg.size;have p:j<es.size:=by rw[h.le];exact h1
 have m:w2.heap[b]? =some (.map es gl.length):=(hg.block b (by have:=h.hd;omega) (fun e=>by have:=((h.own j h2 h1).lt b e.symm).1;omega)).trans h.blk;have q:es.findIdx? (fun e=>((e.born:Nat):Int)==(j:Int))=some j:=by
  rw[Array.findIdx?_eq_some_iff_getElem];refine⟨p,by rw[h.at_ j p h1 h2];simp,fun i f=>?_⟩;rw[h.at_ i (by omega) (by omega) (by have:=h.lv;omega)];simp;omega
 have hap:∀i (a:i<vs.length),i≠j->∀k,v2.ownBlock=some k->vs[i].ownBlock≠some k:=by
  intro i a n k e r;rcases hat with h3|h3
  .exact h.ap i j a h2 n k r (h3.symm.trans e)
  .have:=((h.own i a (by have:=h.lv;omega)).lt k r).2;rw[h3]at e;injection e with e;omega
 refine⟨{w2 with heap:=w2.heap.setIfInBounds b (.map (es.modify j fun e=>{e with val:=v2}) gl.length)},es.modify j fun e=>{e with val:=v2},?_,Kept1.heap _,?_⟩
 .simp[Instr.entryStore,MapKept.run_getObj_map m,asInt,asIntOf,q,MapKept.run_setObj_map _ m]
 .refine⟨by rw[zg1 m];simp,by simp[h.lv],by simp[h.le],?_,?_,?_,?_,o,by have:=h.hd;simp;omega⟩
  .intro i a c d;simp only[Array.size_modify,List.length_set]at a c d;rw[Array.getElem_modify];by_cases f:i=j
   .subst f;simp only[if_true,List.getElem_set_self];rw[h.at_ i p h1 h2]
   .rw[if_neg (by omega),List.getElem_set_ne (by omega),List.getElem_set_ne (by omega),h.at_ i (by rw[h.le];simpa using c) (by simpa using c) (by simpa using d)]
  .intro i a c;have s:i<vs.length:=by simpa using a
   have u:i<gl.length:=by simpa using c
   by_cases f:i=j
   .subst f;simp only[List.getElem_set_self];exact ho.kept1 (Kept1.heap _) o
   .simp only[List.getElem_set_ne (Ne.symm f)];exact((h.own i s u).off hg (fun k e r=>h.ap i j s h2 f k e r.symm)).kept1 (Kept1.heap _) o
  .intro i t a c n g e;have s:i<vs.length:=by simpa using a
   have u:t<vs.length:=by simpa using c
   by_cases f:i=j
   .grind
   .simp only[List.getElem_set_ne (Ne.symm f)]at e;by_cases hj:t=j
    .grind
    .simp only[List.getElem_set_ne (Ne.symm hj)];exact h.ap i t s u n g e
  .have:(gl.set j (gl[j].1,l)).map (·.1)=gl.map (·.1):=by
    apply List.ext_getElem
    .simp
    .grind
   rw[this];exact h.nd
end
structure GI (kd:Nat->SK) (P:List Nat) (gl:List (SK×List Nat)):Prop where
 grp:∀g∈gl,g.2=P.filter (fun x=>kd x==g.1)
 all:∀x∈P,∃g∈gl,g.1=kd x
theorem GI.nil (kd:Nat->SK):GI kd [] []:=⟨fun _ h=>(by cases h),fun _ h=>(by cases h)⟩
theorem GI.none {kd:Nat->SK} {P:List Nat} {gl:List (SK×List Nat)} (h:GI kd P gl) {k:SK} (hk:∀g∈gl,g.1≠k):P.filter (fun x=>kd x==k)=[]:=by
 rw[List.filter_eq_nil_iff];intro x c e;obtain⟨g,d,a⟩:=h.all x c;exact hk g d (a.trans (by simpa using e))
theorem GI.next {kd:Nat->SK} {P:List Nat} {gl gl1:List (SK×List Nat)} (h:GI kd P gl) {x j:Nat} (h1:j<gl1.length) (hk:gl1[j].1=kd x) (hor:gl1=gl\/((∀g∈gl,g.1≠kd x)/\gl1=gl++[(kd x,[])])) (hn:(gl1.map (·.1)).Nodup):
 GI kd (P++[x]) (gl1.set j (gl1[j].1,gl1[j].2++[x])):=by
 have k:GI kd P gl1:=by
  rcases hor with rfl|⟨h2,rfl⟩
  .exact h
  .refine⟨fun g hg=>?_,fun y hy=>?_⟩
   .rcases List.mem_append.1 hg with hg|hg
    .exact h.grp g hg
    .simp at hg;subst hg;exact(h.none h2).symm
   .obtain⟨g,hg,f⟩:=h.all y hy;exact⟨g,List.mem_append_left _ hg,f⟩
 have hj:=k.grp _ (List.getElem_mem h1);refine⟨fun g hg=>?_,fun y hy=>?_⟩
 .obtain⟨i,c,rfl⟩:=List.getElem_of_mem hg;simp only[List.length_set]at c;by_cases hij:i=j
  .grind
  .simp only[List.getElem_set_ne (Ne.symm hij),List.filter_append];rw[<-k.grp _ (List.getElem_mem c)];have d:gl1[i].1≠kd x:=fun e=>by
    have hn':=List.pairwise_iff_getElem.1 (show(gl1.map (·.1)).Pairwise (· ≠·)from hn);rcases Nat.lt_or_gt_of_ne hij with h3|h3
    .grind
    .grind
   simp[Ne.symm d]
 .have a:∀g∈gl1,∃g'∈gl1.set j (gl1[j].1,gl1[j].2++[x]),g'.1=g.1:=by
   intro g hg;obtain⟨i,c,rfl⟩:=List.getElem_of_mem hg;refine⟨(gl1.set j (gl1[j].1,gl1[j].2++[x]))[i]'(by simpa using c),List.getElem_mem _,?_⟩;by_cases hij:i=j
   .subst hij;simp
   .grind
  rcases List.mem_append.1 hy with hy|hy
  .obtain⟨g,hg,f⟩:=k.all y hy;obtain⟨g',h3,l⟩:=a g hg;exact⟨g',h3,l.trans f⟩
  .grind
theorem zc9 (ns:List Gr.Nd) (f:Nat) (l:List Nat) (z:Nat):twice1 ns f (l++[z])=(twice1 ns f l || l.any (fun x=>sameF ns f z x)):=by
 induction l with
 |nil=>rfl
 |cons x l ih=>
  rw[List.cons_append];show((l++[z]).any (fun y=>sameF ns f y x) || twice1 ns f (l++[z]))=((l.any (fun y=>sameF ns f y x) || twice1 ns f l) || (x::l).any (fun x=>sameF ns f z x))
  rw[ih];simp only[List.any_append,List.any_cons,List.any_nil,Bool.or_false];cases l.any (fun y=>sameF ns f y x)<;>cases sameF ns f z x<;>cases twice1 ns f l<;>simp
theorem zjl (ns:List Gr.Nd) (f:Nat) (l m:List Nat) (h:twice1 ns f l=true):twice1 ns f (l++m)=true:=by
 induction m generalizing l with
 |nil=>simpa using h
 |cons x m ih=>
  rw[show l++x::m=(l++[x])++m from by simp];exact ih _ (by rw[zc9,h];rfl)
theorem zjm (ns:List Gr.Nd) (f:Nat) (l:List Nat) (k:Nat) (h:twice1 ns f (l.take k)=true):twice1 ns f l=true:=by
 have:=zjl ns f (l.take k) (l.drop k) h;rwa[List.take_append_drop]at this
def kdOf (ns:List Gr.Nd) (x:Nat):SK:=((ns.getD x ⟨0,[],false,[],[]⟩).kind,(ns.getD x ⟨0,[],false,[],[]⟩).text)
theorem zvo {ns:List Gr.Nd} {f i j:Nat} (h:sameF ns f i j=true):kdOf ns i=kdOf ns j:=by
 cases f with
 |zero=>cases h
 |succ f=>
  unfold sameF at h;split at h
  .rename_i a b ha hb;have d:ns.getD i ⟨0,[],false,[],[]⟩=a:=by rw[List.getD_eq_getElem?_getD,ha];rfl
   have c:ns.getD j ⟨0,[],false,[],[]⟩=b:=by rw[List.getD_eq_getElem?_getD,hb];rfl
   unfold kdOf;rw[d,c];split at h
   .cases h
   .rename_i hn;simp only[not_or,Classical.not_not]at hn;rw[hn.1,hn.2.1]
  .cases h
theorem MapAt.later {w w':World} {D b:Nat} {gl:List (SK×List Nat)} {vs:List Value} {es:Array MapEntry} (h:MapAt w D b gl vs es) (hb:Below w.heap.size w w'):MapAt w' D b gl vs es:=
 ⟨(hb.block b (by have:=h.lo;have:=h.hd;omega)).trans h.blk,h.lv,h.le,h.at_,fun i a c=>(h.own i a c).later hb,h.ap,h.nd,h.lo,Nat.le_trans h.hd hb.size⟩
theorem MapAt.lookL {w:World} {D b:Nat} {gl:List (SK×List Nat)} {vs:List Value} {es:Array MapEntry} (h:MapAt w D b gl vs es) {kd:Nat->SK} {P:List Nat} (hg:GI kd P gl) (k:SK):
 ∃A c,(Instr.lookup 68 (.map (some b)) (skv k) false).run prog w=.ok (.slice A (P.filter (fun x=>kd x==k)).length c) w/\RowAt intL w w.heap.size A (P.filter (fun x=>kd x==k)):=by
 rcases h.look k with⟨j,a,d,i,l⟩|⟨a,d⟩
 .obtain⟨A,c,g,f⟩:=(h.own j d a).form;have e:=hg.grp _ (List.getElem_mem a);rw[i]at e;rw[e]at g f;exact⟨A,c,by rw[l,g],f⟩
 .rw[hg.none a];exact⟨none,0,d,RowAt.nil⟩
theorem zo1 (F:Nat) (A:Option Addr) (c:Nat) (root:Int) (vs:List NV) (ns:List Gr.Nd) (hr:Refs ns) (hl:ns.length<=1073741823) (hks:∀n∈ns,n.keys.length<=1073741823/\n.items.length<=1073741823)
 (hsame:∀x∈allKeys ns,∀y∈allKeys ns,∀W,GAt W W.heap.size A vs ns->Calls prog 43 #[.agg #[.slice A ns.length c,.int .i64 root],.int .i64 x,.int .i64 y] W fun e W'=>e=.returned (.bool (sameF ns F x y))/\Below W.heap.size W W')
 (w:World) (h:GAt w w.heap.size A vs ns):
 Calls prog 29 #[.agg #[.slice A ns.length c,.int .i64 root]] w fun e w'=>e=.returned (.bool (twice ns F))/\Below w.heap.size w w':=by
 have H:=hid h;have an:=hid hsame;have hmm:= @run_makeMap prog;clear h hsame;go_enter func29,ntmps29;go_upto_region 1 with fail;obtain⟨w1,ag⟩:=ex (w.alloc (.cells #[.slice A ns.length c,.int .i64 root] 24))
 (try rw[ag]);have l1:Below w.heap.size w w1:=by rw[<-ag];exact(Below.refl _ _).alloc (Nat.le_refl _) _
 have b1:Blk w1 w.heap.size 24 #[.slice A ns.length c,.int .i64 root]:=by rw[<-ag];exact Blk.new _ _ _
 obtain⟨gb,ac⟩:=ex w.heap.size
 have d:=hid ac;have L1:=hid l1;(try rw[ac]);rw[ac]at b1;have aN:=hid b1;have H1:=hid (H.out.below l1);have g0:w1.cell? ⟨gb,0,none⟩=some (.slice A ns.length c):=b1.cell 0;have o:Hid (gb<w1.heap.size):=hid b1.lt;clear ag ac l1 b1;go_upto_region 2 with fail;clear g0;go_loopw [14] (fun s14 wr=>∃j:Nat,j<=ns.length/\s14=.int .i64 j/\Hid (Below w1.heap.size w1 wr/\(ns.take j).any (fun x=>twice1 ns F x.keys)=false)) (fun s14 _=>ns.length-(intOf s14).toNat)
 case atStart=>exact⟨0,by omega,rfl,hid ⟨Below.refl _ _,by simp⟩⟩
 case round=>
  obtain⟨j,hj,rfl,K⟩:=hrel;obtain⟨J,bl⟩:∃J,J=wr:=⟨_,rfl⟩
  subst bl;by_cases hlt:j<ns.length
  .have aD:(j:Int)<(ns.length:Int):=by omega
   have ae:Hid (gb<J.heap.size/\w1.heap.size<=J.heap.size):=hid ⟨by have:=K.out.1.size;have:=o.out;omega,K.out.1.size⟩;obtain⟨ad,ks,is,rfl,V⟩:=(H1.out.below (K.out.1.mono (by have:=o.out;have:=d.out;omega))).node hlt;obtain⟨ka,kn,kc⟩:=ks;obtain⟨ia,a7,ic⟩:=is;have U:ns[j]∈ns:=List.getElem_mem hlt;obtain⟨bd,a3⟩:=hks _ U;have aA:Hid (∀x∈ns[j].keys,x∈allKeys ns/\x<ns.length):=hid (fun x hx=>⟨List.mem_flatMap.2 ⟨_,U,hx⟩,hr _ U x (List.mem_append_left _ hx)⟩);have aB:Hid ((ns.take (j+1)).any (fun x=>twice1 ns F x.keys)=twice1 ns F ns[j].keys/\(twice1 ns F ns[j].keys=true->twice ns F=true)):=hid ⟨by
    rw[List.take_succ_eq_append_getElem hlt,List.any_append,K.out.2];simp,fun e=>List.any_eq_true.2 ⟨_,U,e⟩⟩
   obtain⟨n,hn⟩:=ex (ns[j])
   rw[hn]at V bd a3 aA aB;obtain rfl:kn=n.keys.length:=V.kn;obtain rfl:a7=n.items.length:=V.inn;have x0:=V.c0;have x1:=V.c1;have x2:=V.c2;have x3:=V.c3;have x4:=V.c4;have bb:=hid V.keys;clear V U hn;go_upto_region 5 with fail;obtain⟨B,I⟩:=ex ((J.alloc (.cells #[.int .i64 n.kind,.string ⟨n.text.toArray⟩,.bool n.ord,.slice ka n.keys.length kc,.slice ia n.items.length ic] 36)).alloc (.map #[] 0))
   obtain⟨lb,u⟩:=ex J.heap.size
   have b5:Blk B lb 36 #[.int .i64 n.kind,.string ⟨n.text.toArray⟩,.bool n.ord,.slice ka n.keys.length kc,.slice ia n.items.length ic]:=by rw[<-I,<-u];exact(Blk.new _ _ _).alloc _
   have m5:B.heap[lb+1]? =some (.map #[] 0):=by
    rw[<-I,<-u];have:=heap_alloc_new (J.alloc (.cells #[.int .i64 n.kind,.string ⟨n.text.toArray⟩,.bool n.ord,.slice ka n.keys.length kc,.slice ia n.items.length ic] 36)) (.map #[] 0);rw[World.size_alloc]at this;exact this
   have l5:Below J.heap.size J B:=by rw[<-I];exact((Below.refl _ _).alloc (Nat.le_refl _) _).alloc (by simp) _
   have ab:B.heap.size=lb+1+1:=by rw[<-I,<-u];simp
   obtain⟨q,aa⟩:=ex (lb+1)
   rw[aa]at m5 ab;have am:MapAt B (q+1) q [] [] #[]:=⟨m5,rfl,rfl,fun i h=>by simp at h,fun i h=>by simp at h,fun i j h=>by simp at h,by simp,by omega,by omega⟩
   obtain⟨D,hD⟩:=ex (q+1)
   rw[hD]at am ab;have a:Hid (gb<lb/\lb+1=q/\q+1=D/\J.heap.size=lb/\B.heap.size=D):=hid ⟨by have:=ae.out;omega,aa,hD,u,ab⟩;have s3:B.cell? ⟨lb,3,none⟩=some (.slice ka n.keys.length kc):=b5.cell 3;have a4:=hid am;have HB5:=hid b5;have L5:Hid (Below lb J B):=hid (by rw[<-u];exact l5);have be:Hid (RowAt intL B gb ka n.keys):=hid (by
    have h1:=bb.out;rw[d.out]at h1;exact h1.below (l5.mono (by have:=ae.out;omega)))
   rw[I];(try rw[u]);rw[aa];clear I b5 m5 l5 ab aa am hD u x0 x1 x2 x3 x4;go_upto_region 6 with fail;clear s3;go_loopw [22] (fun s22 wr=>∃k:Nat,k<=n.keys.length/\s22=.int .i64 k/\Hid (Below q B wr/\(∃gl vs es,MapAt wr D q gl vs es/\GI (kdOf ns) (n.keys.take k) gl)/\twice1 ns F (n.keys.take k)=false)) (fun s22 _=>n.keys.length-(intOf s22).toNat)
   case atStart=>exact⟨0,by omega,rfl,hid ⟨Below.refl _ _,⟨_,_,_,a4.out,by simpa using GI.nil _⟩,by simp[twice1]⟩⟩
   case round=>
    obtain⟨k,hk,rfl,HV⟩:=hrel;obtain⟨S,a9⟩:∃S,S=wr:=⟨_,rfl⟩
    subst a9;by_cases hlk:k<n.keys.length
    .have aZ:(k:Int)<(n.keys.length:Int):=by omega
     obtain⟨x,hx⟩:=ex (n.keys[k])
     obtain⟨au,az⟩:=aA.out n.keys[k] (List.getElem_mem hlk);rw[hx]at au az;have aS:Below gb B S:=HV.out.1.mono (by have:=a.out;omega);obtain⟨adk,rfl,hadk,y0⟩:=zae (be.out.below aS) hlk;rw[hx]at y0;have hxI:(x:Int)<(ns.length:Int):=by omega
     have g0:S.cell? ⟨gb,0,none⟩=some (.slice (some ad) ns.length c):=(((aN.out.below K.out.1 o.out).below L5.out a.out.1).below HV.out.1 (by have:=a.out;omega)).cell 0;have aH:GAt S w.heap.size (some ad) vs ns:=((H1.out.below (K.out.1.mono (by have:=o.out;have:=d.out;omega))).below (L5.out.mono (by have:=d.out;have:=a.out;omega))).below (HV.out.1.mono (by have:=d.out;have:=a.out;omega));obtain⟨ad',kx,ix,R,hX⟩:=aH.node az;injection R with R
     subst R;have ar:kdOf ns x=(ns[x].kind,ns[x].text):=by unfold kdOf;rw[List.getD_eq_getElem?_getD,List.getElem?_eq_getElem az];rfl
     obtain⟨nx,aJ⟩:=ex (ns[x])
     rw[aJ]at hX ar;have z0:=hX.c0;have z1:=hX.c1;have aK:=hid ar;have a5:=hid au;have HX:=hid hx;clear hX ar aJ au hx aS aH;go_upto_region 8 with fail;go_region_held3 (fun w'=>w'.cell? ⟨gb,0,none⟩=some (.slice (some ad) ns.length c)/\w'.cell? (ad.add (x*5))=some (.int .i64 nx.kind)/\w'.cell? {block:=(ad.add (x*5)).block,off:=(ad.add (x*5)).off+1}=some (.string ⟨nx.text.toArray⟩)) (go_keep) (fail);go_upto_region 9 with fail;obtain⟨O,Q⟩:=ex ((S.alloc (.cells #[.int .i64 nx.kind,.string ⟨nx.text.toArray⟩] 70)).drew)
     obtain⟨sb,N⟩:=ex S.heap.size
     have b8:Blk O sb 70 #[.int .i64 nx.kind,.string ⟨nx.text.toArray⟩]:=by rw[<-Q,<-N];exact(Blk.new _ _ _).drew
     have l8:Below S.heap.size S O:=by rw[<-Q];exact below_drewN ((Below.refl _ _).alloc (Nat.le_refl _) _) 1
     have aV:O.heap.size=sb+1:=by rw[<-Q,<-N];simp[World.drew]
     obtain⟨gl,vl,es,hM,Y⟩:=HV.out.2.1;have ax:=hM.later l8;obtain⟨AL,cL,f,ap⟩:=ax.lookL Y (kdOf ns x);have aq:∀y∈(n.keys.take k).filter (fun y=>kdOf ns y==kdOf ns x),y∈n.keys.take k:=fun y hy=>(List.mem_filter.1 hy).1
     have v:((n.keys.take k).filter (fun y=>kdOf ns y==kdOf ns x)).any (fun y=>sameF ns F x y)=false->(n.keys.take k).any (fun y=>sameF ns F x y)=false:=by
      intro h1;rw[List.any_eq_false]at h1 ⊢;intro y hy h2;exact h1 y (List.mem_filter.2 ⟨hy,by have:=zvo h2;simp[this]⟩) h2
     have bm:((n.keys.take k).filter (fun y=>kdOf ns y==kdOf ns x)).length<=1073741823:=Nat.le_trans (List.length_filter_le _ _) (Nat.le_trans (List.length_take_le _ _) (by omega));obtain⟨L,hL⟩:=ex ((n.keys.take k).filter (fun y=>kdOf ns y==kdOf ns x))
     rw[hL]at f ap aq v bm;rw[aK.out]at f;unfold skv at f;simp only at f;obtain⟨t0,t1⟩:=cells2 b8;have a8:Hid (∃gl vs es,MapAt O D q gl vs es/\GI (kdOf ns) (n.keys.take k) gl):=hid ⟨gl,vl,es,ax,Y⟩;have aL:Hid (S.heap.size=sb/\O.heap.size=sb+1/\D<=sb):=hid ⟨N,aV,by have:=hM.hd;omega⟩;have aO:Hid (Below q B O/\twice1 ns F (n.keys.take k)=false):=hid ⟨HV.out.1.trans (l8.mono (by have:=hM.hd;have:=a.out;omega)),HV.out.2.2⟩;have aX:=hid b8;have bg:=hid ap;have a6:=hid aq;have ba:=hid v;rw[Q];(try rw[N]);clear Q N b8 l8 aV hM Y ax ap aq v hL g0 z0 z1 y0;go_upto_region 10 with fail;clear f t0 t1;go_loopw [43] (fun s43 wr=>∃r:Nat,r<=L.length/\s43=.int .i64 r/\Hid (Below O.heap.size O wr/\(L.take r).any (fun y=>sameF ns F x y)=false)) (fun s43 _=>L.length-(intOf s43).toNat)
     case atStart=>exact⟨0,by omega,rfl,hid ⟨Below.refl _ _,by simp⟩⟩
     case round=>
      obtain⟨r,hr2,rfl,Z⟩:=hrel;obtain⟨p,bc⟩:∃p,p=wr:=⟨_,rfl⟩
      subst bc;have t:Below q B p:=aO.out.1.trans (Z.out.1.mono (by have:=aL.out;have:=a.out;omega));by_cases hrl:r<L.length
      .have a0:(r:Int)<(L.length:Int):=by omega
       obtain⟨y,hy⟩:=ex (L[r])
       have ay:y∈n.keys.take k:=by rw[<-hy];exact a6.out _ (List.getElem_mem hrl)
       have aC:y∈n.keys:=List.mem_of_mem_take ay;obtain⟨aF,hyn⟩:=aA.out y aC;obtain⟨adl,rfl,_,y0⟩:=zae (bg.out.below Z.out.1) hrl;rw[hy]at y0;have aE:=(((aN.out.below K.out.1 o.out).below L5.out a.out.1).below t (by have:=a.out;omega))
       obtain⟨g0,g1⟩:=cells2 aE;have aP:GAt p p.heap.size (some ad) vs ns:=(((H1.out.below (K.out.1.mono (by have:=o.out;have:=d.out;omega))).below (L5.out.mono (by have:=d.out;have:=a.out;omega))).below (t.mono (by have:=d.out;have:=a.out;omega))).more (by have:=Z.out.1.size;have:=aL.out;have:=a.out;have:=d.out;omega);have HC:=hid (an.out x a5.out y aF p aP);have aQ:Hid ((L.take (r+1)).any (fun y=>sameF ns F x y)=sameF ns F x y):=hid (by rw[List.take_succ_eq_append_getElem hrl,List.any_append,Z.out.2,hy];simp);have aT:Hid (sameF ns F x y=true->twice ns F=true):=hid (fun e=>aB.out.2 (by
        refine zjm ns F n.keys (k+1) ?_;rw[zak _ _ hlk,zc9,HX.out];have:(n.keys.take k).any (fun z=>sameF ns F x z)=true:=List.any_eq_true.2 ⟨y,ay,e⟩;rw[this];simp))
       obtain⟨b,hb⟩:=ex (sameF ns F x y)
       rw[hb]at HC aQ aT;have aY:Hid (Below w.heap.size w p):=hid ((L1.out.trans (K.out.1.mono (by have:=o.out;have:=d.out;omega))).trans ((L5.out.mono (by have:=d.out;have:=a.out;omega)).trans (t.mono (by have:=d.out;have:=a.out;omega))));have aM:Hid (w.heap.size<=p.heap.size/\O.heap.size<=p.heap.size):=hid ⟨aY.out.size,Z.out.1.size⟩;clear aE aP hy aC ay aF hb t;go_wp2_with fail;refine HC.out.mono ?_;rintro e w9 ⟨rfl,af⟩;cases b with
       |true=>
        have ak:Hid (twice ns F=true/\Below w.heap.size w w9):=hid ⟨aT.out rfl,aY.out.trans (af.mono aM.out.1)⟩;clear af;go_wp2;go_ret;rw[ak.out.1];exact⟨rfl,ak.out.2⟩
       |false=>
        have P:Hid (Below O.heap.size O w9/\(L.take (r+1)).any (fun y=>sameF ns F x y)=false):=hid ⟨Z.out.1.trans (af.mono aM.out.2),aQ.out⟩;clear af;go_wp2;go_roundw
        case rel=>exact⟨r+1,by omega,by go_num,P⟩
        case measure=>simp[intOf];omega
      .have a0:¬(r:Int)<(L.length:Int):=by omega
       have aI:twice1 ns F (n.keys.take (k+1))=false:=by
        rw[zak _ _ hlk,zc9,HX.out,aO.out.2,ba.out (by
         have:=Z.out.2;rwa[show r=L.length from by omega,List.take_length]at this)]
        rfl
       obtain⟨gl,vl,es,hM,Y⟩:=a8.out;have aU:=(hM.later Z.out.1).later ((Below.refl p.heap.size p).alloc (Nat.le_refl _) (.cells #[.int .i64 x] 3));obtain⟨wE,m,av,bk,jj,X,q2,hE,E,l,T,C⟩:=aU.entry (kdOf ns x);obtain⟨t0,t1⟩:=cells2 (aX.out.below Z.out.1 aX.out.lt);have hq:=(l.own jj q2 X)
       obtain⟨Aj,cj,s,a2⟩:=hq.form;clear a2;rw[s]at hE hq;rw[aK.out]at hE;unfold skv at hE;simp only at hE;have bi:m[jj].2.length<=1073741823:=by
        have al:∀g∈gl,g.2.length<=k:=fun g hg=>by
         rw[Y.grp g hg];exact Nat.le_trans (List.length_filter_le _ _) (List.length_take_le _ _)
        have:∀g∈m,g.2.length<=k:=by
         rcases C with rfl|⟨_,rfl⟩
         .exact al
         .intro g hg;rcases List.mem_append.1 hg with hg|hg
          .exact al g hg
          .simp at hg;subst hg;simp
        have:=this _ (List.getElem_mem X);omega
       obtain⟨lj,G⟩:=ex (m[jj].2)
       rw[G]at hE hq s bi;have ah:p.heap.size≠q:=by have:=hM.lo;have:=hM.hd;have:=Z.out.1.size;omega
       have M:RowAt intL wE (p.heap.size+1) (some ⟨p.heap.size,0,none⟩) [x]:=RowAt.ofBlk (E.blk (Blk.new p 3 #[.int .i64 x]) ah) rfl (by omega);have HE:Hid (∃(X:jj<m.length) (q2:jj<av.length),Kept1 q (p.alloc (.cells #[.int .i64 x] 3)) wE/\MapAt wE D q m av bk/\m[jj].1=kdOf ns x/\(m=gl\/((∀g∈gl,g.1≠kdOf ns x)/\m=gl++[(kdOf ns x,[])]))/\m[jj].2=lj/\av[jj]=.slice Aj lj.length cj/\GI (kdOf ns) (n.keys.take k) gl):=hid ⟨X,q2,E,l,T,C,G,s,Y⟩;have bh:=hid aI;have HQ:=hid hq;have aR:=hid M;have a1:Hid (D<=wE.heap.size):=hid l.hd;have bf:=hid t;have bj:Hid (q<=p.heap.size):=hid (by have:=t.size;have:=a.out;omega);clear hM Y aU E l T C G s hq M aI t ah X q2;go_wp2_with (at_builtin;go_must (refine zab _ rfl (.tmp 54) (.tmp 56) 34 3 8 rfl intT D (.slice Aj lj.length cj) lj rfl HQ.out _ _ 1 [x] rfl aR.out ?_ ?_ ?_))
       any_goals (first|exact a1.out| (simp;omega))
       intro v' w3 aj hg aw;obtain⟨X,q2,E,l,T,C,G,s,Y⟩:=HE.out;rw[<-s]at hg aw;obtain⟨w4,es3,hST,aG,aW⟩:=l.store X q2 aj hg aw;have ao:=Y.next X T C l.nd;rw[G]at ao;have P:Hid (Below q B w4/\(∃gl vs es,MapAt w4 D q gl vs es/\GI (kdOf ns) (n.keys.take (k+1)) gl)/\twice1 ns F (n.keys.take (k+1))=false):=hid ⟨
        (((bf.out.alloc bj.out _).trans (E.below (Nat.le_refl _))).trans (((l.own jj q2 X).grown_below hg l.hd).mono (by have:=a.out;omega))).trans (aG.below (Nat.le_refl _)),
        ⟨_,_,_,aW,by rw[zak _ _ hlk,HX.out];exact ao⟩,bh.out⟩
       clear aj hg aw E l T C G s Y aG aW ao X q2;go_wp2;go_roundw
       case rel=>exact⟨k+1,by omega,by go_num,P⟩
       case measure=>simp[intOf];omega
    .have aZ:¬(k:Int)<(n.keys.length:Int):=by omega
     have P:Hid (Below w1.heap.size w1 S/\(ns.take (j+1)).any (fun x=>twice1 ns F x.keys)=false):=hid ⟨(K.out.1.trans (L5.out.mono (by have:=ae.out;have:=a.out;omega))).trans (HV.out.1.mono (by have:=ae.out;have:=a.out;omega)),by
      have:=HV.out.2.2;rw[show k=n.keys.length from by omega,List.take_length]at this;rw[aB.out.1,this]⟩
     go_wp2;go_roundw
     case rel=>exact⟨j+1,by omega,by go_num,P⟩
     case measure=>simp[intOf];omega
  .have aD:¬(j:Int)<(ns.length:Int):=by omega
   have ai:Hid (twice ns F=false/\Below w.heap.size w J):=hid ⟨by
    have:=K.out.2;rw[show j=ns.length from by omega,List.take_length]at this;exact this,L1.out.trans (K.out.1.mono (by have:=o.out;have:=d.out;omega))⟩
   go_wp2;go_ret;rw[ai.out.1];exact⟨rfl,ai.out.2⟩
theorem zee (n:Gr.Str) (hl:n.length<=1073741823) (w:World):
 Calls prog 35 #[.string ⟨n.toArray⟩] w fun e w'=>e=.returned (.bool (Gr.intB n))/\Below w.heap.size w w':=by
 have a:=Lib.hid (fun W=>zjs n hl W);obtain⟨r,g⟩:=ex (Gr.intB n)
 rw[g]at a ⊢;clear g;go_enter func35,ntmps35;go_wp2_with fail;refine(a.out _).mono ?_;rintro e w2 ⟨b,A,m,c,rfl,d⟩;have f:=Lib.hid d;clear d;go_wp2;go_ret;exact⟨rfl,f.out.alloc f.out.size _⟩
theorem rep48 (n:Nat):Lib.repeatL [48] n=List.replicate n (48:UInt8):=by
 induction n with
 |zero=>rfl
 |succ n ih=>
  show[48]++Lib.repeatL [48] n=_;rw[ih];rfl
theorem zce (x n:Nat) (i j:Int) (hi:i=(x:Int)) (hj:j=(n:Int)) (h1:1<=n) (hn:n<=9) (hx:x<10 ^ n) (w:World) (hT:UT w):
 Calls prog 112 #[.int .i64 i,.int .i64 j] w fun e w'=>e=.returned (.string ⟨(Gr.pd n x).toArray⟩)/\Below w.heap.size w w':=by
 subst hi;subst hj;have hx9:x<1000000000:=Nat.lt_of_lt_of_le hx (Nat.pow_le_pow_right (n:=10) (by omega) (show n<=9 by omega));have h:(Lib.decDigits x).length<=n:=by rw[Lib.decDigits_length];exact Nat.le_of_succ_le_succ (by have:=Gr.zbn (n-1) x (by rwa[show n-1+1=n from by omega]);omega)
 have p:=hid (fun(W:World) (hW:UT W)=>zhb (x:Int) (by omega) (by omega) W hW);rw[Gr.zgt]at p;have a:=hid (Gr.zpc n x h1 hx);obtain⟨d,s⟩:=ex (Lib.decDigits x)
 rw[s]at p a h;obtain⟨r,t⟩:=ex (Gr.pd n x)
 rw[t]at a ⊢;obtain⟨z,m⟩:=ex (List.replicate (n-d.length) (48:UInt8))
 have hzl:z.length<=9:=by rw[<-m];simp;omega
 have c:Hid (∀W,Calls prog 141 #[.string ⟨#[48]⟩,.int .i64 ((n-d.length:Nat):Int)] W fun e w'=>e=.returned (.string ⟨z.toArray⟩)/\Below W.heap.size W w'):=hid (fun W=>by
  have:=strings_Repeat ⟨#[48]⟩ (n-d.length) W (by omega) (by show 1*(n-d.length)<=_;omega);rw[show(⟨#[48]⟩:ByteArray).data.toList=[48]from rfl,rep48,m]at this;exact this)
 rw[m]at a;have g:((n-d.length:Nat):Int)=max 0 ((n:Int)-(d.length:Int)):=by omega
 rw[g]at c;have hm0:0<=(n:Int)-(d.length:Int):=by omega
 have f:=fun W=>zac z d (by omega) W
 rw[a.out]at f;have o:=hid hT;clear s t m g hT hx;go_enter func112,ntmps112;go_wp2_with fail;refine(p.out _ o.out).mono ?_;rintro e w1 ⟨rfl,k⟩;have l:=hid k;clear k;go_wp2_with fail;refine(c.out _).mono ?_;rintro e u ⟨rfl,b⟩;have q:Hid (Below w.heap.size w u):=hid (l.out.trans (b.mono l.out.size));clear b;go_wp2;go_ret;exact⟨rfl,q.out⟩
theorem zfp (sh:Int) (y m d h mi c nanos:Nat) (zh zm z:Int) (hy:y<=9999) (hm:m<=99) (hd:d<=99) (hh:h<=99) (hmi:mi<=99) (hc:c<=99) (hn:nanos<=999999999) (hn0:sh=1->nanos=0) (w:World) (hT:UT w):
 Calls prog 85 #[.agg #[.int .i64 sh,.int .i64 (y:Int),.int .i64 (m:Int),.int .i64 (d:Int),.int .i64 (h:Int),.int .i64 (mi:Int),.int .i64 (c:Int),.int .i64 zh,.int .i64 zm,.int .i64 (nanos:Int),.int .u8 z]] w fun e w'=>e=.returned (.string ⟨((if sh=2 then[]else dateS y m d)++(if sh=3 then[84]else[])++(if sh=1 then[]else clkS h mi c nanos):Gr.Str).toArray⟩)/\Below w.heap.size w w':=by
 have HT:=hid hT;have a5:=hid hn0;clear hT hn0;have M:=hid (fun(W:World) (hW:UT W)=>zce y 4 (y:Int) 4 rfl rfl (by omega) (by omega) (by omega) W hW);have aw:=za4 4 y;have Z:=hid (fun(W:World) (hW:UT W)=>zce m 2 (m:Int) 2 rfl rfl (by omega) (by omega) (by omega) W hW);have ap:=za4 2 m;have H:=hid (fun(W:World) (hW:UT W)=>zce d 2 (d:Int) 2 rfl rfl (by omega) (by omega) (by omega) W hW);have aA:=za4 2 d;have Y:=hid (fun(W:World) (hW:UT W)=>zce h 2 (h:Int) 2 rfl rfl (by omega) (by omega) (by omega) W hW);have av:=za4 2 h;have aa:=hid (fun(W:World) (hW:UT W)=>zce mi 2 (mi:Int) 2 rfl rfl (by omega) (by omega) (by omega) W hW);have ak:=za4 2 mi;have T:=hid (fun(W:World) (hW:UT W)=>zce c 2 (c:Int) 2 rfl rfl (by omega) (by omega) (by omega) W hW);have ae:=za4 2 c;have ai:=hid (fun(W:World) (hW:UT W)=>zce nanos 9 (nanos:Int) 9 rfl rfl (by omega) (by omega) (by omega) W hW);have ax:=za4 9 nanos;obtain⟨py,Q⟩:=ex (Gr.pd 4 y)
 rw[Q]at M aw;obtain⟨pm,J⟩:=ex (Gr.pd 2 m)
 rw[J]at Z ap;obtain⟨pd,G⟩:=ex (Gr.pd 2 d)
 rw[G]at H aA;obtain⟨ph,R⟩:=ex (Gr.pd 2 h)
 rw[R]at Y av;obtain⟨pi,L⟩:=ex (Gr.pd 2 mi)
 rw[L]at aa ak;obtain⟨pc,K⟩:=ex (Gr.pd 2 c)
 rw[K]at T ae;obtain⟨N,X⟩:=ex (Gr.pd 9 nanos)
 rw[X]at ai ax;have D:Hid (dateS y m d=py++[45]++pm++[45]++pd/\clkS h mi c nanos=ph++[58]++pi++[58]++pc++nanoS nanos/\nanoS nanos=(if nanos=0 then[]else 46::trimZ N)):=hid ⟨by simp only[dateS,Q,J,G];simp,by simp only[clkS,R,L,K];simp,by simp only[nanoS,X]⟩;clear Q J G R L K X;obtain⟨r,hr⟩:∃r:Gr.Str,((if sh=2 then[]else dateS y m d)++(if sh=3 then[84]else[])++(if sh=1 then[]else clkS h mi c nanos):Gr.Str)=r:=⟨_,rfl⟩
 have a3:=hid hr;rw[hr];clear hr;obtain⟨l,s⟩:=ex w.heap.size
 obtain⟨a,O⟩:∃a,a=w.alloc (.cells #[.int .i64 sh,.int .i64 (y:Int),.int .i64 (m:Int),.int .i64 (d:Int),.int .i64 (h:Int),.int .i64 (mi:Int),.int .i64 (c:Int),.int .i64 zh,.int .i64 zm,.int .i64 (nanos:Int),.int .u8 z] 94):=⟨_,rfl⟩
 have b:Hid (Blk a l 94 #[.int .i64 sh,.int .i64 (y:Int),.int .i64 (m:Int),.int .i64 (d:Int),.int .i64 (h:Int),.int .i64 (mi:Int),.int .i64 (c:Int),.int .i64 zh,.int .i64 zm,.int .i64 (nanos:Int),.int .u8 z]/\Below l w a/\UT a):=hid (by
  rw[O,<-s];exact⟨Blk.new _ _ _,(Below.refl _ _).alloc (Nat.le_refl _) _,UT.stays _ _ HT.out ((Below.refl _ _).alloc (Nat.le_refl _) _)⟩)
 have g:Hid (∀W:WB a.heap.size a,UT W.w):=hid (fun W=>UT.stays _ _ b.out.2.2 W.h);have aZ:=hid s;have aq:Hid (∀W:WB a.heap.size a,Calls prog 112 #[.int .i64 (y:Int),.int .i64 4] W.w fun e w'=>e=.returned (.string ⟨py.toArray⟩)/\Below a.heap.size a w'):=hid (fun W=>(M.out W.w (g.out W)).mono (fun _ _ ⟨n,p⟩=>⟨n,W.h.trans (p.mono W.h.size)⟩));have az:Hid (∀W:WB a.heap.size a,Calls prog 112 #[.int .i64 (m:Int),.int .i64 2] W.w fun e w'=>e=.returned (.string ⟨pm.toArray⟩)/\Below a.heap.size a w'):=hid (fun W=>(Z.out W.w (g.out W)).mono (fun _ _ ⟨n,p⟩=>⟨n,W.h.trans (p.mono W.h.size)⟩));have ag:Hid (∀W:WB a.heap.size a,Calls prog 112 #[.int .i64 (d:Int),.int .i64 2] W.w fun e w'=>e=.returned (.string ⟨pd.toArray⟩)/\Below a.heap.size a w'):=hid (fun W=>(H.out W.w (g.out W)).mono (fun _ _ ⟨n,p⟩=>⟨n,W.h.trans (p.mono W.h.size)⟩));have ab:Hid (∀W:WB a.heap.size a,Calls prog 112 #[.int .i64 (h:Int),.int .i64 2] W.w fun e w'=>e=.returned (.string ⟨ph.toArray⟩)/\Below a.heap.size a w'):=hid (fun W=>(Y.out W.w (g.out W)).mono (fun _ _ ⟨n,p⟩=>⟨n,W.h.trans (p.mono W.h.size)⟩));have aj:Hid (∀W:WB a.heap.size a,Calls prog 112 #[.int .i64 (mi:Int),.int .i64 2] W.w fun e w'=>e=.returned (.string ⟨pi.toArray⟩)/\Below a.heap.size a w'):=hid (fun W=>(aa.out W.w (g.out W)).mono (fun _ _ ⟨n,p⟩=>⟨n,W.h.trans (p.mono W.h.size)⟩));have am:Hid (∀W:WB a.heap.size a,Calls prog 112 #[.int .i64 (c:Int),.int .i64 2] W.w fun e w'=>e=.returned (.string ⟨pc.toArray⟩)/\Below a.heap.size a w'):=hid (fun W=>(T.out W.w (g.out W)).mono (fun _ _ ⟨n,p⟩=>⟨n,W.h.trans (p.mono W.h.size)⟩));clear M Z H Y aa T;go_enter func85,ntmps85;go_upto_region 2 with fail;(try rw[<-O]);(try rw[s]);clear O s;have I:a.cell? ⟨l,0,none⟩=some (.int .i64 sh):=(b.out.1.below (Below.refl _ _) b.out.1.lt).cell 0;go_upto_if 6 with fail;go_cut [3] (fun s3 wx=>∃S:Gr.Str,s3=.string ⟨S.toArray⟩/\S.length<=60/\Hid (S=(if sh=2 then[]else dateS y m d)/\Below a.heap.size a wx))
 case first=>
  by_cases h2:sh=2
  .have aY:(sh != 2)=false:=by simp[h2]
   have o:Hid (([]:Gr.Str)=if sh=2 then[]else dateS y m d):=hid (by rw[if_pos h2]);clear h2;go_wp2;go_meet;exact⟨[],rfl,by simp,hid ⟨o.out,Below.refl _ _⟩⟩
  .have aY:(sh != 2)=true:=by simpa using h2
   have o:Hid ((if sh=2 then[]else dateS y m d)=dateS y m d):=hid (by rw[if_neg h2]);clear h2;go_upto_region 3 with fail;clear I;have p1:∀W:WB a.heap.size a,W.w.cell? ⟨l,1,none⟩=some (.int .i64 (y:Int)):=fun W=>(b.out.1.below W.h b.out.1.lt).cell 1
   have p2:∀W:WB a.heap.size a,W.w.cell? ⟨l,2,none⟩=some (.int .i64 (m:Int)):=fun W=>(b.out.1.below W.h b.out.1.lt).cell 2
   have p3:∀W:WB a.heap.size a,W.w.cell? ⟨l,3,none⟩=some (.int .i64 (d:Int)):=fun W=>(b.out.1.below W.h b.out.1.lt).cell 3
   obtain⟨s1,E⟩:∃x:Gr.Str,py++[45]=x:=⟨_,rfl⟩
   have Ls1:s1.length<=20:=by rw[<-E];simp<;>omega
   have aS:=fun W=>zac py [45] (by first|omega| (simp<;>omega)) W
   rw[E]at aS;have aG:=hid E;clear E;obtain⟨s2,t⟩:∃x:Gr.Str,s1++pm=x:=⟨_,rfl⟩
   have Ls2:s2.length<=30:=by rw[<-t];simp<;>omega
   have a6:=fun W=>zac s1 pm (by first|omega| (simp<;>omega)) W
   rw[t]at a6;have aJ:=hid t;clear t;obtain⟨s3,A⟩:∃x:Gr.Str,s2++[45]=x:=⟨_,rfl⟩
   have Ls3:s3.length<=40:=by rw[<-A];simp<;>omega
   have a4:=fun W=>zac s2 [45] (by first|omega| (simp<;>omega)) W
   rw[A]at a4;have aB:=hid A;clear A;obtain⟨s4,u⟩:∃x:Gr.Str,s3++pd=x:=⟨_,rfl⟩
   have a7:s4.length<=60:=by rw[<-u];simp<;>omega
   have aT:=fun W=>zac s3 pd (by first|omega| (simp<;>omega)) W
   rw[u]at aT;have a2:=hid u;clear u;refine zaa a.heap.size a (by kernel_rfl) (by kernel_rfl) (Below.refl _ _) ?_
   iterate 17 (try go_big_quiet_step ((first| (with_reducible refine Calls.grow (aq.out _))| (with_reducible refine Calls.grow (az.out _))| (with_reducible refine Calls.grow (ag.out _)))))
   refine wpQuiet_nil ?_;rintro _ ⟨wz,rfl⟩;go_wp2;go_meet;exact⟨s4,rfl,a7,hid ⟨by rw[o.out,D.out.1,<-a2.out,<-aB.out,<-aJ.out,<-aG.out],wz.h⟩⟩
 case rest=>
 obtain⟨S,rfl,hS,HS⟩:=hcut;clear I;have I:wc.cell? ⟨l,0,none⟩=some (.int .i64 sh):=(b.out.1.below HS.out.2 b.out.1.lt).cell 0;go_upto_region 4 with fail;obtain⟨wk,aV⟩:∃wk,wk=wc:=⟨_,rfl⟩
 subst aV;go_upto_if 25 with fail;go_cut [3] (fun s3 wx=>∃U:Gr.Str,s3=.string ⟨U.toArray⟩/\U.length<=61/\Hid (U=S++(if sh=3 then[84]else[])/\wx=wk))
 case first=>
  by_cases h3:sh=3
  .have aD:(sh==3)=true:=by simp[h3]
   have o:Hid ((if sh=3 then([84]:Gr.Str)else[])=[84]):=hid (by rw[if_pos h3]);clear h3;obtain⟨s5,q⟩:∃x:Gr.Str,S++[84]=x:=⟨_,rfl⟩
   have aL:s5.length<=61:=by rw[<-q];simp<;>omega
   have aC:=fun W=>zac S [84] (by first|omega| (simp<;>omega)) W
   rw[q]at aC;have aK:=hid q;clear q;go_wp2;go_meet;exact⟨s5,rfl,aL,hid ⟨by rw[o.out,aK.out],rfl⟩⟩
  .have aD:(sh==3)=false:=by simpa using h3
   have o:Hid ((if sh=3 then([84]:Gr.Str)else[])=[]):=hid (by rw[if_neg h3]);clear h3;go_wp2;go_meet;exact⟨S,rfl,by omega,hid ⟨by rw[o.out];simp,rfl⟩⟩
 case rest=>
 obtain⟨U,rfl,hU,HU⟩:=hcut;obtain⟨wm,aI⟩:∃wm,wm=wc:=⟨_,rfl⟩
 subst aI;have P:Hid (Below a.heap.size a wm):=hid (by rw[HU.out.2];exact HS.out.2);clear I;have I:wm.cell? ⟨l,0,none⟩=some (.int .i64 sh):=(b.out.1.below P.out b.out.1.lt).cell 0;go_upto_region 6 with fail;go_upto_if 30 with fail;go_cut [3] (fun s3 wx=>∃V:Gr.Str,s3=.string ⟨V.toArray⟩/\V.length<=160/\Hid (U++(if sh=1 then[]else clkS h mi c nanos)=V++nanoS nanos/\Below a.heap.size a wx))
 case first=>
  by_cases h1:sh=1
  .have aW:(sh != 1)=false:=by simp[h1]
   have o:Hid (U++(if sh=1 then[]else clkS h mi c nanos)=U++nanoS nanos):=hid (by rw[if_pos h1,a5.out h1];rfl);clear h1;go_wp2;go_meet;exact⟨U,rfl,by omega,hid ⟨o.out,P.out⟩⟩
  .have aW:(sh != 1)=true:=by simpa using h1
   have o:Hid ((if sh=1 then[]else clkS h mi c nanos)=clkS h mi c nanos):=hid (by rw[if_neg h1]);clear h1;go_upto_region 7 with fail;clear I;have p4:∀W:WB a.heap.size a,W.w.cell? ⟨l,4,none⟩=some (.int .i64 (h:Int)):=fun W=>(b.out.1.below W.h b.out.1.lt).cell 4
   have p5:∀W:WB a.heap.size a,W.w.cell? ⟨l,5,none⟩=some (.int .i64 (mi:Int)):=fun W=>(b.out.1.below W.h b.out.1.lt).cell 5
   have p6:∀W:WB a.heap.size a,W.w.cell? ⟨l,6,none⟩=some (.int .i64 (c:Int)):=fun W=>(b.out.1.below W.h b.out.1.lt).cell 6
   obtain⟨s6,F⟩:∃x:Gr.Str,ph++[58]=x:=⟨_,rfl⟩
   have Ls6:s6.length<=20:=by rw[<-F];simp<;>omega
   have a1:=fun W=>zac ph [58] (by first|omega| (simp<;>omega)) W
   rw[F]at a1;have aN:=hid F;clear F;obtain⟨s7,v⟩:∃x:Gr.Str,s6++pi=x:=⟨_,rfl⟩
   have Ls7:s7.length<=30:=by rw[<-v];simp<;>omega
   have aU:=fun W=>zac s6 pi (by first|omega| (simp<;>omega)) W
   rw[v]at aU;have aQ:=hid v;clear v;obtain⟨s8,C⟩:∃x:Gr.Str,s7++[58]=x:=⟨_,rfl⟩
   have Ls8:s8.length<=40:=by rw[<-C];simp<;>omega
   have aO:=fun W=>zac s7 [58] (by first|omega| (simp<;>omega)) W
   rw[C]at aO;have a0:=hid C;clear C;obtain⟨s9,B⟩:∃x:Gr.Str,s8++pc=x:=⟨_,rfl⟩
   have Ls9:s9.length<=60:=by rw[<-B];simp<;>omega
   have aP:=fun W=>zac s8 pc (by first|omega| (simp<;>omega)) W
   rw[B]at aP;have aF:=hid B;clear B;obtain⟨s10,k⟩:∃x:Gr.Str,U++s9=x:=⟨_,rfl⟩
   have au:s10.length<=160:=by rw[<-k];simp<;>omega
   have af:=fun W=>zac U s9 (by first|omega| (simp<;>omega)) W
   rw[k]at af;have al:=hid k;clear k;refine zaa a.heap.size a (by kernel_rfl) (by kernel_rfl) P.out ?_
   iterate 19 (try go_big_quiet_step ((first| (with_reducible refine Calls.grow (ab.out _))| (with_reducible refine Calls.grow (aj.out _))| (with_reducible refine Calls.grow (am.out _)))))
   refine wpQuiet_nil ?_;rintro _ ⟨wy,rfl⟩;go_wp2;go_meet;exact⟨s10,rfl,au,hid ⟨by rw[o.out,D.out.2.1,<-al.out,<-aF.out,<-a0.out,<-aQ.out,<-aN.out];simp,wy.h⟩⟩
 case rest=>
 obtain⟨V,rfl,hV,HV⟩:=hcut;clear I;have q9:wc.cell? ⟨l,9,none⟩=some (.int .i64 (nanos:Int)):=(b.out.1.below HV.out.2 b.out.1.lt).cell 9;have HZ:Hid (∀W,Below a.heap.size a W->Below w.heap.size w W):=hid (fun W hW=>by rw[aZ.out];exact b.out.2.1.trans (hW.mono (Nat.le_of_lt b.out.1.lt)));have ao:Hid (r=V++nanoS nanos):=hid (by rw[<-a3.out,<-HV.out.1,HU.out.1,HS.out.1]);by_cases hz:0<nanos
 .have aM:(0:Int)<(nanos:Int):=by omega
  have ar:Hid (∀W,Calls prog 113 #[.string ⟨N.toArray⟩,.string ⟨#[48]⟩] W fun e w'=>e=.returned (.string ⟨(trimZ N).toArray⟩)/\w'=W):=hid (fun W=>strings_TrimRight_one ⟨N.toArray⟩ 48 (by decide) W (by show N.toArray.size<=_;simp;omega));have aH:(trimZ N).length<=9:=by unfold trimZ;rw[List.length_reverse];exact Nat.le_trans (List.dropWhile_sublist _).length_le (by rw[List.length_reverse];omega)
  obtain⟨f,hf⟩:=ex (trimZ N)
  have aE:=hid hf;rw[hf]at ar aH;clear hf;obtain⟨s11,j⟩:∃x:Gr.Str,[46]++f=x:=⟨_,rfl⟩
  have Ls11:s11.length<=20:=by rw[<-j];simp<;>omega
  have ah:=fun W=>zac [46] f (by first|omega| (simp<;>omega)) W
  rw[j]at ah;have ay:=hid j;clear j;obtain⟨s12,i⟩:∃x:Gr.Str,V++s11=x:=⟨_,rfl⟩
  have Ls12:s12.length<=200:=by rw[<-i];simp<;>omega
  have an:=fun W=>zac V s11 (by first|omega| (simp<;>omega)) W
  rw[i]at an;have ad:=hid i;clear i;have HE:Hid (r=s12):=hid (by rw[ao.out,D.out.2.2,if_neg (by omega),aE.out,<-ad.out,<-ay.out];simp);have aX:=hid (ai.out wc (g.out ⟨wc,HV.out.2⟩));clear hz;go_wp2_with fail;refine aX.out.mono ?_;rintro e w5 ⟨rfl,ac⟩;have aR:Hid (Below a.heap.size a w5):=hid (HV.out.2.trans (ac.mono HV.out.2.size));clear ac q9;go_wp2_with fail;refine(ar.out _).mono ?_;rintro e w6 ⟨rfl,rfl⟩;go_wp2;go_ret;exact⟨by rw[HE.out]<;>rfl,HZ.out _ aR.out⟩
 .have aM:¬(0:Int)<(nanos:Int):=by omega
  have HE:Hid (r=V):=hid (by rw[ao.out,D.out.2.2,if_pos (by omega)];simp);go_wp2;go_ret;exact⟨by rw[HE.out]<;>rfl,HZ.out _ HV.out.2⟩
theorem zws (y m d h mi c nanos:Nat) (zh zm z:Int) (hy:y<=9999) (hm:m<=99) (hd:d<=99) (hh:h<=99) (hmi:mi<=99) (hc:c<=99) (hn:nanos<=999999999) (hn0:nanos=0) (w:World) (hT:UT w):
 Calls prog 85 #[.agg #[.int .i64 1,.int .i64 (y:Int),.int .i64 (m:Int),.int .i64 (d:Int),.int .i64 (h:Int),.int .i64 (mi:Int),.int .i64 (c:Int),.int .i64 zh,.int .i64 zm,.int .i64 (nanos:Int),.int .u8 z]] w fun e w'=>e=.returned (.string ⟨((dateS y m d):Gr.Str).toArray⟩)/\Below w.heap.size w w':=by
 simpa using zfp 1 y m d h mi c nanos zh zm z hy hm hd hh hmi hc hn (fun _=>hn0) w hT
theorem zwt (y m d h mi c nanos:Nat) (zh zm z:Int) (hy:y<=9999) (hm:m<=99) (hd:d<=99) (hh:h<=99) (hmi:mi<=99) (hc:c<=99) (hn:nanos<=999999999) (w:World) (hT:UT w):
 Calls prog 85 #[.agg #[.int .i64 2,.int .i64 (y:Int),.int .i64 (m:Int),.int .i64 (d:Int),.int .i64 (h:Int),.int .i64 (mi:Int),.int .i64 (c:Int),.int .i64 zh,.int .i64 zm,.int .i64 (nanos:Int),.int .u8 z]] w fun e w'=>e=.returned (.string ⟨((clkS h mi c nanos):Gr.Str).toArray⟩)/\Below w.heap.size w w':=by
 simpa using zfp 2 y m d h mi c nanos zh zm z hy hm hd hh hmi hc hn (by intro h;omega) w hT
theorem zqw (y m d h mi c nanos:Nat) (zh zm z:Int) (hy:y<=9999) (hm:m<=99) (hd:d<=99) (hh:h<=99) (hmi:mi<=99) (hc:c<=99) (hn:nanos<=999999999) (w:World) (hT:UT w):
 Calls prog 85 #[.agg #[.int .i64 3,.int .i64 (y:Int),.int .i64 (m:Int),.int .i64 (d:Int),.int .i64 (h:Int),.int .i64 (mi:Int),.int .i64 (c:Int),.int .i64 zh,.int .i64 zm,.int .i64 (nanos:Int),.int .u8 z]] w fun e w'=>e=.returned (.string ⟨((dateS y m d++[84]++clkS h mi c nanos):Gr.Str).toArray⟩)/\Below w.heap.size w w':=by
 simpa using zfp 3 y m d h mi c nanos zh zm z hy hm hd hh hmi hc hn (by intro h;omega) w hT
structure MoOk (x:Gr.Mo):Prop where
 y:x.y<=9999
 m:x.m<=99
 d:x.d<=99
 h:x.h<=99
 mi:x.mi<=99
 c:x.c<=99
 nanos:x.nanos<=999999999
 zh:x.zh<=99
 zm:x.zm<=99
 sh:(x.date=true/\x.time=true)\/(x.date=true/\x.time=false/\x.z=0)\/(x.date=false/\x.time=true/\x.z=0)
 z0:x.z=0->x.zh=0/\x.zm=0
theorem numAt2 {s:Gr.Str} {a v:Nat} (h:numAt s a 2=some v):v<=99:=by
 have:=(zc1 h (by omega)).2.1;omega
theorem numAt4 {s:Gr.Str} {a v:Nat} (h:numAt s a 4=some v):v<=9999:=by
 have:=(zc1 h (by omega)).2.1;omega
theorem zlm {s:Gr.Str} {a:Nat} {k:Gr.Ck} (h:clockAt s a=some k):k.h<=99/\k.m<=99/\k.s<=99/\k.nanos<=999999999:=by
 unfold clockAt at h;split at h
 .rename_i h1 h2 h3;have c:=numAt2 h1;have b:=numAt2 h2;have e:=numAt2 h3;split at h
  .split at h
   .split at h
    .cases h
    .rename_i hn;injection h with h
     subst h;refine⟨c,b,e,?_⟩;have d:=zec (s.drop (a+9));have f:=zew _ d;generalize (s.drop (a+9)).takeWhile Gr.dig=l at *;have:Gr.val l*10 ^ (9-l.length)<10 ^ l.length*10 ^ (9-l.length):=Nat.mul_lt_mul_of_pos_right f (Nat.pow_pos (by omega));rw[<-Nat.pow_add,show l.length+(9-l.length)=9 from by omega]at this;show Gr.val l*10 ^ (9-l.length)<=999999999;omega
   .grind
  .cases h
 .cases h
theorem zwv {s:Gr.Str} {a:Nat} {z:Gr.Zn} (h:zoneAt s a=some z):z.h<=99/\z.m<=99:=by
 unfold zoneAt at h;split at h
 .grind
 .split at h
  .rename_i h1 h2;split at h
   .injection h with h;subst h;exact⟨numAt2 h1,numAt2 h2⟩
   .cases h
  .cases h
theorem zq1 {s:Gr.Str} {x:Gr.Mo} (h:Gr.rd s=some x):MoOk x:=by
 unfold Gr.rd at h;split at h
 .split at h
  .rename_i k hk;obtain⟨f,a,b,c⟩:=zlm hk;split at h
   .injection h with h;subst h
    exact⟨Nat.zero_le _,Nat.zero_le _,Nat.zero_le _,f,a,b,c,Nat.zero_le _,Nat.zero_le _,.inr (.inr ⟨rfl,rfl,rfl⟩),fun _=>⟨rfl,rfl⟩⟩
   .cases h
  .cases h
 .rename_i y m d hd;have n:y<=9999/\m<=99/\d<=99:=by
   unfold dateAt at hd;split at hd
   .rename_i h1 h2 h3;split at hd
    .injection hd with hd
     injection hd with e1 e2
     injection e2 with e2 e3
     subst e1 e2 e3;exact⟨numAt4 h1,numAt2 h2,numAt2 h3⟩
    .cases hd
   .cases hd
  obtain⟨j,g,i⟩:=n;split at h
  .injection h with h;subst h
   exact⟨j,g,i,Nat.zero_le _,Nat.zero_le _,Nat.zero_le _,Nat.zero_le _,Nat.zero_le _,Nat.zero_le _,.inr (.inl ⟨rfl,rfl,rfl⟩),fun _=>⟨rfl,rfl⟩⟩
  .split at h
   .split at h
    .cases h
    .rename_i k hk;obtain⟨f,a,b,c⟩:=zlm hk;split at h
     .injection h with h;subst h
      exact⟨j,g,i,f,a,b,c,Nat.zero_le _,Nat.zero_le _,.inl ⟨rfl,rfl⟩,fun _=>⟨rfl,rfl⟩⟩
     .split at h
      .rename_i z hz;obtain⟨l,o⟩:=zwv hz;split at h
       .injection h with h;subst h
        exact⟨j,g,i,f,a,b,c,l,o,.inl ⟨rfl,rfl⟩,fun e=>absurd e (zqv hz)⟩
       .cases h
      .cases h
   .cases h
theorem zq2 {x:Gr.Mo} (h:MoOk x):rngB x.date x.y x.m x.d x.h x.mi x.c (decide (23<x.zh) || decide (59<x.zm))=okR x:=by
 unfold rngB okR Cal.vld;have i:decide ((0:Int)<=(x.y:Int))=true:=by simp
 have a:decide ((x.y:Int)<=9999)=true:=by have:=h.y;simp;omega
 rw[i,a];have e:decide ((x.h:Int)<=23)=decide (x.h<=23):=by rw[Bool.eq_iff_iff];simp;omega
 have g:decide ((x.mi:Int)<=59)=decide (x.mi<=59):=by rw[Bool.eq_iff_iff];simp;omega
 have b:decide ((x.c:Int)<=59)=decide (x.c<=59):=by rw[Bool.eq_iff_iff];simp;omega
 have f:(!(decide (23<x.zh) || decide (59<x.zm)))=(decide (x.zh<=23) && decide (x.zm<=59)):=by rw[Bool.eq_iff_iff];simp
 rw[e,g,b,f];cases x.date<;>simp[Bool.and_assoc,Bool.and_comm,Bool.and_left_comm]
end Go.Proofs.YtpjmhafmeieloaaGreatDoor

import Derived.Test.YtpjmhafmeieloabGreatDoorZ08
import Derived.Test.YtpjmhafmeieloabGreatDoorGrInsR12
namespace Go.Proofs.YtpjmhafmeieloabGreatDoor
open Go.RowKit
section
variable {P:Program} {md:Region.Mode} {ops:Array Oper} {Q:Exit->Act->World->Prop}
theorem zl7 (Inv:Nat->Array Bool->Act->World->Prop)
 (hstep:∀m listed a w i,Inv m listed a w->i∈Region.ready md ops listed->∃m',m=m'+1/\wpOp P ops Q i (fun a' w'=>Inv m' (listed.setIfInBounds i true) a' w') a w)
 (hend:∀m listed a w,Inv m listed a w->Region.ready md ops listed=[]->Q .normal a w):
 ∀fuel listed a w,Inv fuel listed a w->wpAny P md ops Q fuel listed a w:=by
 intro fuel
 induction fuel with
 |zero=>
  intro listed a w h;have b:Region.ready md ops listed=[]:=List.eq_nil_iff_forall_not_mem.2 (fun i c=>by obtain⟨m',d,_⟩:=hstep _ _ _ _ i h c;omega);exact⟨b,hend _ _ _ _ h b⟩
 |succ fuel ih=>
  intro listed a w h;refine⟨fun b=>hend _ _ _ _ h b,fun i c=>?_⟩;obtain⟨m',d,e⟩:=hstep _ _ _ _ i h c;obtain rfl:m'=fuel:=by omega
  exact wpOp_mono (fun a w h=>ih _ _ _ h) e
variable {i:Nat} {o:Oper} {K:Act->World->Prop} {a:Act} {w w':World}
theorem zbk (v:Value) (ho:ops[i]? =some o) (hg:o.guard=none) (hrun:(execOp a.eval o).run P w=.ok (.value v) w') (hK:K (a.put o.dst v) w'):wpOp P ops Q i K a w:=by
 unfold wpOp;rw[ho];simp only[Region.wanted,hg,if_true];left;unfold Oper.wp;rw[hrun];exact hK
theorem zjs (ho:ops[i]? =some o) (hg:o.guard=none) (hrun:(execOp a.eval o).run P w=.ok .skip w') (hK:K (a.put o.dst undef) w'):wpOp P ops Q i K a w:=by
 unfold wpOp;rw[ho];simp only[Region.wanted,hg,if_true];left;unfold Oper.wp;rw[hrun];exact hK
end
open Gr
open _root_.Go.Proofs.Tryz
open _root_.Go.Lib (hid)
set_option maxRecDepth 100000
set_option maxHeartbeats 16000000
structure Mk3 (n:Nat) (w1 W:World) (f:Nat->Bool) (r b:Nat->Nat):Prop where
 below:Below w1.heap.size w1 W
 row:∀j,j<3->f (2*j+1)=true->w1.heap.size<=r j/\Blk W (r j) 3 (icells (List.replicate n 0))
 box:∀j,j<3->f (6+j)=true->w1.heap.size<=b j/\Blk W (b j) 38 #[if f (9+j)then .slice (some ⟨r j,0,none⟩) n n else .slice none 0 0]
 rr:∀j k,j<3->k<3->j≠k->f (2*j+1)=true->f (2*k+1)=true->r j≠r k
 bb:∀j k,j<3->k<3->j≠k->f (6+j)=true->f (6+k)=true->b j≠b k
def upd {α:Type} (f:Nat->α) (i:Nat) (x:α):Nat->α:=fun k=>if k=i then x else f k
theorem Mk3.start (n:Nat) (w1:World) (r b:Nat->Nat):Mk3 n w1 w1.drew (fun _=>false) r b:=
 ⟨below_drewN (Below.refl _ _) 1,fun _ _ h=>by(cases h),fun _ _ h=>by(cases h),fun _ _ _ _ _ h=>by(cases h),fun _ _ _ _ _ h=>by(cases h)⟩
variable {n:Nat} {w1 W:World} {f:Nat->Bool} {r b:Nat->Nat}
theorem Mk3.mark (h:Mk3 n w1 W f r b) (i:Nat) (hi:i=0\/i=2\/i=4):Mk3 n w1 W (upd f i true) r b:=by
 have e:∀k,k≠i->upd f i true k=f k:=fun k c=>by unfold upd;rw[if_neg c]
 refine⟨h.below,fun j a=>?_,fun j a=>?_,fun j k a c=>?_,fun j k a c=>?_⟩
 .rw[e _ (by omega)];exact h.row j a
 .rw[e _ (by omega),e _ (by omega)];exact h.box j a
 .rw[e _ (by omega),e _ (by omega)];exact h.rr j k a c
 .rw[e _ (by omega),e _ (by omega)];exact h.bb j k a c
theorem Mk3.make (h:Mk3 n w1 W f r b) (j0:Nat) (hj0:j0<3) (hs:f (9+j0)=false):Mk3 n w1 (W.alloc (.cells (icells (List.replicate n 0)) 3)) (upd f (2*j0+1) true) (upd r j0 W.heap.size) b:=by
 have e:∀k,k≠2*j0+1->upd f (2*j0+1) true k=f k:=fun k d=>by unfold upd;rw[if_neg d]
 have i:∀k,k≠j0->upd r j0 W.heap.size k=r k:=fun k d=>by unfold upd;rw[if_neg d]
 have g:upd r j0 W.heap.size j0=W.heap.size:=by unfold upd;rw[if_pos rfl]
 have l:=h.below.size;refine⟨h.below.alloc l _,fun j c a=>?_,fun j c=>?_,fun j k c d p a o=>?_,fun j k c d=>?_⟩
 .by_cases hjj:j=j0
  .subst hjj;rw[g];exact⟨l,Blk.new _ _ _⟩
  .rw[e _ (by omega)]at a;rw[i _ hjj];obtain⟨q,m⟩:=h.row j c a;exact⟨q,m.alloc _⟩
 .rw[e _ (by omega),e _ (by omega)];intro a;obtain⟨q,m⟩:=h.box j c a;refine⟨q,?_⟩;by_cases hjj:j=j0
  .subst hjj;rw[hs]at m ⊢;exact m.alloc _
  .rw[i _ hjj];exact m.alloc _
 .by_cases hjj:j=j0
  .subst hjj;rw[g,i k (by omega)];rw[e _ (by omega)]at o;have:=(h.row k d o).2.lt;omega
  .rw[e _ (by omega)]at a;rw[i j hjj];by_cases hkk:k=j0
   .subst hkk;rw[g];have:=(h.row j c a).2.lt;omega
   .rw[e _ (by omega)]at o;rw[i k hkk];exact h.rr j k c d p a o
 .rw[e _ (by omega),e _ (by omega)];exact h.bb j k c d
theorem Mk3.boxed (h:Mk3 n w1 W f r b) (j0:Nat) (hj0:j0<3) (hs:f (9+j0)=false):Mk3 n w1 (W.alloc (.cells #[.slice none 0 0] 38)) (upd f (6+j0) true) r (upd b j0 W.heap.size):=by
 have e:∀k,k≠6+j0->upd f (6+j0) true k=f k:=fun k d=>by unfold upd;rw[if_neg d]
 have l:∀k,k≠j0->upd b j0 W.heap.size k=b k:=fun k d=>by unfold upd;rw[if_neg d]
 have g:upd b j0 W.heap.size j0=W.heap.size:=by unfold upd;rw[if_pos rfl]
 have i:=h.below.size;refine⟨h.below.alloc i _,fun j c=>?_,fun j c a=>?_,fun j k c d=>?_,fun j k c d p a m=>?_⟩
 .rw[e _ (by omega)];intro a;obtain⟨q,o⟩:=h.row j c a;exact⟨q,o.alloc _⟩
 .rw[e (9+j) (by omega)];by_cases hjj:j=j0
  .subst hjj;rw[g,hs];exact⟨i,Blk.new _ _ _⟩
  .rw[e _ (by omega)]at a;rw[l _ hjj];obtain⟨q,o⟩:=h.box j c a;exact⟨q,o.alloc _⟩
 .rw[e _ (by omega),e _ (by omega)];exact h.rr j k c d
 .by_cases hjj:j=j0
  .subst hjj;rw[g,l k (by omega)];rw[e _ (by omega)]at m;have:=(h.box k d m).2.lt;omega
  .rw[e _ (by omega)]at a;rw[l j hjj];by_cases hkk:k=j0
   .subst hkk;rw[g];have:=(h.box j c a).2.lt;omega
   .rw[e _ (by omega)]at m;rw[l k hkk];exact h.bb j k c d p a m
theorem Mk3.fill (h:Mk3 n w1 W f r b) (j0:Nat) (hj0:j0<3) (hb:f (6+j0)=true):Mk3 n w1 (W.setCell ⟨b j0,0,none⟩ (.slice (some ⟨r j0,0,none⟩) n n)) (upd f (9+j0) true) r b:=by
 have e:∀k,k≠9+j0->upd f (9+j0) true k=f k:=fun k d=>by unfold upd;rw[if_neg d]
 have o:upd f (9+j0) true (9+j0)=true:=by unfold upd;rw[if_pos rfl]
 obtain⟨m,l⟩:=h.box j0 hj0 hb;refine⟨h.below.setCell (p:=⟨b j0,0,none⟩) m _,fun j a=>?_,fun j a c=>?_,fun j k a d=>?_,fun j k a d=>?_⟩
 .rw[e _ (by omega)];intro c;obtain⟨i,g⟩:=h.row j a c;exact⟨i,g.far (g.ne_ l (by decide)) _⟩
 .rw[e (6+j) (by omega)]at c;obtain⟨i,g⟩:=h.box j a c;refine⟨i,?_⟩;by_cases hjj:j=j0
  .subst hjj;rw[o,if_pos rfl];exact l.set_ 0 _
  .rw[e (9+j) (by omega)];exact g.far (h.bb j j0 a hj0 hjj c hb) _
 .rw[e _ (by omega),e _ (by omega)];exact h.rr j k a d
 .rw[e _ (by omega),e _ (by omega)];exact h.bb j k a d
def left12 (f:Nat->Bool):Nat:=cond (f 0) 0 1+cond (f 1) 0 1+cond (f 2) 0 1+cond (f 3) 0 1+cond (f 4) 0 1+cond (f 5) 0 1+cond (f 6) 0 1+cond (f 7) 0 1+cond (f 8) 0 1+cond (f 9) 0 1+cond (f 10) 0 1+cond (f 11) 0 1
theorem zao (f:Nat->Bool) (i:Nat) (hi:i<12) (h:f i=false):left12 f=left12 (upd f i true)+1:=by
 unfold left12 upd;obtain rfl|rfl|rfl|rfl|rfl|rfl|rfl|rfl|rfl|rfl|rfl|rfl:i=0\/i=1\/i=2\/i=3\/i=4\/i=5\/i=6\/i=7\/i=8\/i=9\/i=10\/i=11:=by omega
 all_goals
  simp only[h,if_true,cond_true,cond_false];simp
  try omega
theorem zfs (A:Option Addr) (c root:Nat) (vs:List NV) (ns:List Gr.Nd) (hr:Refs ns) (hl:ns.length<=1073741823) (hks:∀n∈ns,n.keys.length<=1073741823/\n.items.length<=1073741823) (hroot:root<ns.length)
 (w:World) (h:GAt w w.heap.size A vs ns):
 Calls prog 42 #[.agg #[.slice A ns.length c,.int .i64 root]] w fun e w'=>∃rC Az cz,e=.returned (.tuple #[.slice (some ⟨rC,0,none⟩) ns.length ns.length,.slice Az (tcomp (Gr.succ ns) ns.length root).sizes.length cz])/\w.heap.size<=rC/\Below w.heap.size w w'/\
  Blk w' rC 3 (jcells (tcomp (Gr.succ ns) ns.length root).inn)/\OwnRow intL w' w.heap.size 3 (.slice Az (tcomp (Gr.succ ns) ns.length root).sizes.length cz) (tcomp (Gr.succ ns) ns.length root).sizes:=by
 have H:=hid h;have ac:=fun W=>zb1 ns.length (by omega) W
 have hmb:=fun W=>zb2 ns.length (by omega) W
 have hrI:(root:Int)<(ns.length:Int):=by omega
 clear h;go_enter func42,ntmps42;go_upto_region 2 with fail;obtain⟨w1,ae⟩:=ex (w.alloc (.cells #[.slice A ns.length c,.int .i64 root] 27))
 (try rw[ae]);have ad:=hid ae;obtain⟨Z,L⟩:=ex w.heap.size
 (try rw[L]);have ar:=hid L;clear ae L;go_cut [5,6,7] (fun s5 s6 s7 wx=>∃r b:Nat->Nat,s5=.pointer (some ⟨b 0,0,none⟩)/\s6=.pointer (some ⟨b 1,0,none⟩)/\s7=.pointer (some ⟨b 2,0,none⟩)/\Hid (Mk3 ns.length w1 wx (fun _=>true) r b))
 case first=>
  refine wp_region_any (by kernel_rfl) ?_;refine zl7 (fun m t a' w'=>∃(f:Nat->Bool) (r b:Nat->Nat) (x17 x18 x19 x20 x21 x22 p5 p6 p7:Value),t=#[f 0,f 1,f 2,f 3,f 4,f 5,f 6,f 7,f 8,f 9,f 10,f 11]/\m=left12 f/\Hid (Mk3 ns.length w1 w' f r b)/\(f 0=true->x17=.int .i64 ns.length)/\(f 1=true->x18=.slice (some ⟨r 0,0,none⟩) ns.length ns.length)/\(f 6=true->p5=.pointer (some ⟨b 0,0,none⟩))/\(f 9=true->f 1=true/\f 6=true)/\(f 2=true->x19=.int .i64 ns.length)/\(f 3=true->x20=.slice (some ⟨r 1,0,none⟩) ns.length ns.length)/\(f 7=true->p6=.pointer (some ⟨b 1,0,none⟩))/\(f 10=true->f 3=true/\f 7=true)/\(f 4=true->x21=.int .i64 ns.length)/\(f 5=true->x22=.slice (some ⟨r 2,0,none⟩) ns.length ns.length)/\(f 8=true->p7=.pointer (some ⟨b 2,0,none⟩))/\(f 11=true->f 5=true/\f 8=true)/\a'={tmps:=List.toArray (.agg #[.slice A ns.length c,.int .i64 root]::.pointer (some ⟨Z,0,none⟩)::.slice none 0 0::.slice none 0 0::.int .i64 ns.length::p5::p6::p7::undef::undef::undef::undef::undef::undef::.pointer (some ⟨Z,0,none⟩)::.slice A ns.length c::.int .i64 ns.length::x17::x18::x19::x20::x21::x22::undef::undef::undef::undef::undef::undef::undef::undef::undef::undef::undef::undef::undef::undef::undef::undef::undef::undef::[]),defers:=[]}) ?step ?fin _ _ _ _ ?start
  case start=>
   exact⟨fun _=>false,fun _=>0,fun _=>0,undef,undef,undef,undef,undef,undef,undef,undef,undef,rfl,rfl,hid (Mk3.start _ _ _ _),fun h=>(by cases h),fun h=>(by cases h),fun h=>(by cases h),fun h=>(by cases h),fun h=>(by cases h),fun h=>(by cases h),fun h=>(by cases h),fun h=>(by cases h),fun h=>(by cases h),fun h=>(by cases h),fun h=>(by cases h),fun h=>(by cases h),rfl⟩
  case step=>
   rintro m t a' w' i ⟨f,r,b,x17,x18,x19,x20,x21,x22,p5,p6,p7,rfl,rfl,d,p,E,D,s0,F,K,B,s1,I,G,C,s2,rfl⟩ hi;rw[mem_ready]at hi;obtain⟨q,o,N,Y⟩:=hi;have hi12:i<12:=(Array.getElem?_eq_some_iff.1 N).1;obtain rfl|rfl|rfl|rfl|rfl|rfl|rfl|rfl|rfl|rfl|rfl|rfl:i=0\/i=1\/i=2\/i=3\/i=4\/i=5\/i=6\/i=7\/i=8\/i=9\/i=10\/i=11:=by omega
   .have a:f 0=false:=by simpa using q
    obtain rfl:=Option.some.inj (show some _=some o from N);exact⟨left12 (upd f 0 true),zao f 0 (by omega) a,zbk (.int .i64 ns.length) rfl rfl (by simp[execOp,go_sem]) ⟨upd f 0 true,r,b,.int .i64 ns.length,x18,x19,x20,x21,x22,p5,p6,p7,rfl,rfl,hid (d.out.mark 0 (by omega)),fun _=>rfl,E,D,s0,F,K,B,s1,I,G,C,s2,rfl⟩⟩
   .have a:f 1=false:=by simpa using q
    obtain rfl:=Option.some.inj (show some _=some o from N);have d0:f 0=true:=by simpa using Y ⟨0,.data⟩ (by simp) rfl
    have Q:=p d0;subst Q;have R:f 9=false:=by cases hq:f 9 with|false=>rfl|true=>rw[(s0 hq).1]at a;cases a
    exact⟨left12 (upd f 1 true),zao f 1 (by omega) a,zbk (.slice (some ⟨w'.heap.size,0,none⟩) ns.length ns.length) rfl rfl (by simp[execOp,go_sem,ac]) ⟨upd f 1 true,upd r 0 w'.heap.size,b,.int .i64 ns.length,(.slice (some ⟨w'.heap.size,0,none⟩) ns.length ns.length),x19,x20,x21,x22,p5,p6,p7,rfl,rfl,hid (d.out.make 0 (by omega) R),p,fun _=>rfl,D,fun h=>⟨rfl,(s0 h).2⟩,F,K,B,s1,I,G,C,s2,rfl⟩⟩
   .have a:f 2=false:=by simpa using q
    obtain rfl:=Option.some.inj (show some _=some o from N);exact⟨left12 (upd f 2 true),zao f 2 (by omega) a,zbk (.int .i64 ns.length) rfl rfl (by simp[execOp,go_sem]) ⟨upd f 2 true,r,b,x17,x18,.int .i64 ns.length,x20,x21,x22,p5,p6,p7,rfl,rfl,hid (d.out.mark 2 (by omega)),p,E,D,s0,fun _=>rfl,K,B,s1,I,G,C,s2,rfl⟩⟩
   .have a:f 3=false:=by simpa using q
    obtain rfl:=Option.some.inj (show some _=some o from N);have d0:f 2=true:=by simpa using Y ⟨2,.data⟩ (by simp) rfl
    have Q:=F d0;subst Q;have R:f 10=false:=by cases hq:f 10 with|false=>rfl|true=>rw[(s1 hq).1]at a;cases a
    exact⟨left12 (upd f 3 true),zao f 3 (by omega) a,zbk (.slice (some ⟨w'.heap.size,0,none⟩) ns.length ns.length) rfl rfl (by simp[execOp,go_sem,ac]) ⟨upd f 3 true,upd r 1 w'.heap.size,b,x17,x18,.int .i64 ns.length,(.slice (some ⟨w'.heap.size,0,none⟩) ns.length ns.length),x21,x22,p5,p6,p7,rfl,rfl,hid (d.out.make 1 (by omega) R),p,E,D,s0,F,fun _=>rfl,B,fun h=>⟨rfl,(s1 h).2⟩,I,G,C,s2,rfl⟩⟩
   .have a:f 4=false:=by simpa using q
    obtain rfl:=Option.some.inj (show some _=some o from N);exact⟨left12 (upd f 4 true),zao f 4 (by omega) a,zbk (.int .i64 ns.length) rfl rfl (by simp[execOp,go_sem]) ⟨upd f 4 true,r,b,x17,x18,x19,x20,.int .i64 ns.length,x22,p5,p6,p7,rfl,rfl,hid (d.out.mark 4 (by omega)),p,E,D,s0,F,K,B,s1,fun _=>rfl,G,C,s2,rfl⟩⟩
   .have a:f 5=false:=by simpa using q
    obtain rfl:=Option.some.inj (show some _=some o from N);have d0:f 4=true:=by simpa using Y ⟨4,.data⟩ (by simp) rfl
    have Q:=I d0;subst Q;have R:f 11=false:=by cases hq:f 11 with|false=>rfl|true=>rw[(s2 hq).1]at a;cases a
    exact⟨left12 (upd f 5 true),zao f 5 (by omega) a,zbk (.slice (some ⟨w'.heap.size,0,none⟩) ns.length ns.length) rfl rfl (by simp[execOp,go_sem,ac]) ⟨upd f 5 true,upd r 2 w'.heap.size,b,x17,x18,x19,x20,.int .i64 ns.length,(.slice (some ⟨w'.heap.size,0,none⟩) ns.length ns.length),p5,p6,p7,rfl,rfl,hid (d.out.make 2 (by omega) R),p,E,D,s0,F,K,B,s1,I,fun _=>rfl,C,fun h=>⟨rfl,(s2 h).2⟩,rfl⟩⟩
   .have a:f 6=false:=by simpa using q
    obtain rfl:=Option.some.inj (show some _=some o from N);have R:f 9=false:=by cases hq:f 9 with|false=>rfl|true=>rw[(s0 hq).2]at a;cases a
    exact⟨left12 (upd f 6 true),zao f 6 (by omega) a,zbk (.pointer (some ⟨w'.heap.size,0,none⟩)) rfl rfl (by simp[execOp,go_sem]) ⟨upd f 6 true,r,upd b 0 w'.heap.size,x17,x18,x19,x20,x21,x22,(.pointer (some ⟨w'.heap.size,0,none⟩)),p6,p7,rfl,rfl,hid (d.out.boxed 0 (by omega) R),p,E,fun _=>rfl,fun h=>⟨(s0 h).1,rfl⟩,F,K,B,s1,I,G,C,s2,rfl⟩⟩
   .have a:f 7=false:=by simpa using q
    obtain rfl:=Option.some.inj (show some _=some o from N);have R:f 10=false:=by cases hq:f 10 with|false=>rfl|true=>rw[(s1 hq).2]at a;cases a
    exact⟨left12 (upd f 7 true),zao f 7 (by omega) a,zbk (.pointer (some ⟨w'.heap.size,0,none⟩)) rfl rfl (by simp[execOp,go_sem]) ⟨upd f 7 true,r,upd b 1 w'.heap.size,x17,x18,x19,x20,x21,x22,p5,(.pointer (some ⟨w'.heap.size,0,none⟩)),p7,rfl,rfl,hid (d.out.boxed 1 (by omega) R),p,E,D,s0,F,K,fun _=>rfl,fun h=>⟨(s1 h).1,rfl⟩,I,G,C,s2,rfl⟩⟩
   .have a:f 8=false:=by simpa using q
    obtain rfl:=Option.some.inj (show some _=some o from N);have R:f 11=false:=by cases hq:f 11 with|false=>rfl|true=>rw[(s2 hq).2]at a;cases a
    exact⟨left12 (upd f 8 true),zao f 8 (by omega) a,zbk (.pointer (some ⟨w'.heap.size,0,none⟩)) rfl rfl (by simp[execOp,go_sem]) ⟨upd f 8 true,r,upd b 2 w'.heap.size,x17,x18,x19,x20,x21,x22,p5,p6,(.pointer (some ⟨w'.heap.size,0,none⟩)),rfl,rfl,hid (d.out.boxed 2 (by omega) R),p,E,D,s0,F,K,B,s1,I,G,fun _=>rfl,fun h=>⟨(s2 h).1,rfl⟩,rfl⟩⟩
   .have a:f 9=false:=by simpa using q
    obtain rfl:=Option.some.inj (show some _=some o from N);have J:f 6=true:=by simpa using Y ⟨6,.data⟩ (by simp) rfl
    have d2:f 1=true:=by simpa using Y ⟨1,.data⟩ (by simp) rfl
    have Q:=E d2;subst Q;have hp:=D J;subst hp;have u:=(d.out.box 0 (by omega) J).2;have hc:w'.cell? ⟨b 0,0,none⟩=some (.slice none 0 0):=by rw[u.cell 0];simp[a]
    have hz:=u.frozen 0;exact⟨left12 (upd f 9 true),zao f 9 (by omega) a,zjs (w':=w'.setCell ⟨b 0,0,none⟩ (.slice (some ⟨r 0,0,none⟩) ns.length ns.length)) rfl rfl (by simp[execOp,go_sem,hc,hz]) ⟨upd f 9 true,r,b,x17,(.slice (some ⟨r 0,0,none⟩) ns.length ns.length),x19,x20,x21,x22,(.pointer (some ⟨b 0,0,none⟩)),p6,p7,rfl,rfl,hid (d.out.fill 0 (by omega) J),p,E,D,fun _=>⟨d2,J⟩,F,K,B,s1,I,G,C,s2,rfl⟩⟩
   .have a:f 10=false:=by simpa using q
    obtain rfl:=Option.some.inj (show some _=some o from N);have J:f 7=true:=by simpa using Y ⟨7,.data⟩ (by simp) rfl
    have d2:f 3=true:=by simpa using Y ⟨3,.data⟩ (by simp) rfl
    have Q:=K d2;subst Q;have hp:=B J;subst hp;have u:=(d.out.box 1 (by omega) J).2;have hc:w'.cell? ⟨b 1,0,none⟩=some (.slice none 0 0):=by rw[u.cell 0];simp[a]
    have hz:=u.frozen 0;exact⟨left12 (upd f 10 true),zao f 10 (by omega) a,zjs (w':=w'.setCell ⟨b 1,0,none⟩ (.slice (some ⟨r 1,0,none⟩) ns.length ns.length)) rfl rfl (by simp[execOp,go_sem,hc,hz]) ⟨upd f 10 true,r,b,x17,x18,x19,(.slice (some ⟨r 1,0,none⟩) ns.length ns.length),x21,x22,p5,(.pointer (some ⟨b 1,0,none⟩)),p7,rfl,rfl,hid (d.out.fill 1 (by omega) J),p,E,D,s0,F,K,B,fun _=>⟨d2,J⟩,I,G,C,s2,rfl⟩⟩
   .have a:f 11=false:=by simpa using q
    obtain rfl:=Option.some.inj (show some _=some o from N);have J:f 8=true:=by simpa using Y ⟨8,.data⟩ (by simp) rfl
    have d2:f 5=true:=by simpa using Y ⟨5,.data⟩ (by simp) rfl
    have Q:=G d2;subst Q;have hp:=C J;subst hp;have u:=(d.out.box 2 (by omega) J).2;have hc:w'.cell? ⟨b 2,0,none⟩=some (.slice none 0 0):=by rw[u.cell 0];simp[a]
    have hz:=u.frozen 0;exact⟨left12 (upd f 11 true),zao f 11 (by omega) a,zjs (w':=w'.setCell ⟨b 2,0,none⟩ (.slice (some ⟨r 2,0,none⟩) ns.length ns.length)) rfl rfl (by simp[execOp,go_sem,hc,hz]) ⟨upd f 11 true,r,b,x17,x18,x19,x20,x21,(.slice (some ⟨r 2,0,none⟩) ns.length ns.length),p5,p6,(.pointer (some ⟨b 2,0,none⟩)),rfl,rfl,hid (d.out.fill 2 (by omega) J),p,E,D,s0,F,K,B,s1,I,G,C,fun _=>⟨d2,J⟩,rfl⟩⟩
  case fin=>
   rintro m t a' w' ⟨f,r,b,x17,x18,x19,x20,x21,x22,p5,p6,p7,rfl,rfl,d,p,E,D,s0,F,K,B,s1,I,G,C,s2,rfl⟩ hr;have O:=fun i=>mt mem_ready.2 (List.eq_nil_iff_forall_not_mem.1 hr i)
   have t0:f 0=true:=by
    cases e:f 0 with
    |true=>rfl
    |false=>exact(O 0 ⟨by simpa using e,_,rfl,by simp[Region.binds, *]⟩).elim
   have t2:f 2=true:=by
    cases e:f 2 with
    |true=>rfl
    |false=>exact(O 2 ⟨by simpa using e,_,rfl,by simp[Region.binds, *]⟩).elim
   have t4:f 4=true:=by
    cases e:f 4 with
    |true=>rfl
    |false=>exact(O 4 ⟨by simpa using e,_,rfl,by simp[Region.binds, *]⟩).elim
   have t6:f 6=true:=by
    cases e:f 6 with
    |true=>rfl
    |false=>exact(O 6 ⟨by simpa using e,_,rfl,by simp[Region.binds, *]⟩).elim
   have t7:f 7=true:=by
    cases e:f 7 with
    |true=>rfl
    |false=>exact(O 7 ⟨by simpa using e,_,rfl,by simp[Region.binds, *]⟩).elim
   have t8:f 8=true:=by
    cases e:f 8 with
    |true=>rfl
    |false=>exact(O 8 ⟨by simpa using e,_,rfl,by simp[Region.binds, *]⟩).elim
   have t1:f 1=true:=by
    cases e:f 1 with
    |true=>rfl
    |false=>exact(O 1 ⟨by simpa using e,_,rfl,by simp[Region.binds, *]⟩).elim
   have t3:f 3=true:=by
    cases e:f 3 with
    |true=>rfl
    |false=>exact(O 3 ⟨by simpa using e,_,rfl,by simp[Region.binds, *]⟩).elim
   have t5:f 5=true:=by
    cases e:f 5 with
    |true=>rfl
    |false=>exact(O 5 ⟨by simpa using e,_,rfl,by simp[Region.binds, *]⟩).elim
   have t9:f 9=true:=by
    cases e:f 9 with
    |true=>rfl
    |false=>exact(O 9 ⟨by simpa using e,_,rfl,by simp[Region.binds, *]⟩).elim
   have au:f 10=true:=by
    cases e:f 10 with
    |true=>rfl
    |false=>exact(O 10 ⟨by simpa using e,_,rfl,by simp[Region.binds, *]⟩).elim
   have am:f 11=true:=by
    cases e:f 11 with
    |true=>rfl
    |false=>exact(O 11 ⟨by simpa using e,_,rfl,by simp[Region.binds, *]⟩).elim
   have hf:f=fun k=>f k:=rfl
   have l:∀k,k<12->f k=true:=by
    intro k hk;obtain rfl|rfl|rfl|rfl|rfl|rfl|rfl|rfl|rfl|rfl|rfl|rfl:k=0\/k=1\/k=2\/k=3\/k=4\/k=5\/k=6\/k=7\/k=8\/k=9\/k=10\/k=11:=by omega
    all_goals assumption
   have hM:Mk3 ns.length w1 w' (fun _=>true) r b:=⟨d.out.below,fun j hj _=>d.out.row j hj (l _ (by omega)),fun j hj _=>by
    have:=d.out.box j hj (l _ (by omega));rw[l (9+j) (by omega)]at this;exact this,fun j k hj hk ab _ _=>d.out.rr j k hj hk ab (l _ (by omega)) (l _ (by omega)),fun j k hj hk ab _ _=>d.out.bb j k hj hk ab (l _ (by omega)) (l _ (by omega))⟩
   have al:=D t6;have ay:=B t7;have aw:=C t8;subst al;subst ay;subst aw;have aA:=hid hM;clear hM l hf O hr d p E D s0 F K B s1 I G C s2 t0 t1 t2 t3 t4 t5 t6 t7 t8 t9 au am;go_wp2;go_meet;exact⟨r,b,rfl,rfl,rfl,aA⟩
 case rest=>
  obtain⟨r,b,rfl,rfl,rfl,d⟩:=hcut;obtain⟨p,V⟩:∃p:Nat->List Int,(fun k=>List.replicate k (-1:Int)++List.replicate (ns.length-k) 0)=p:=⟨_,rfl⟩
  have av:Hid (∀k,k<ns.length->(p k).set k (-1)=p (k+1)/\(p k).length=ns.length/\(p k).getD k (-1)=0):=hid (fun k hk=>by
   rw[<-V];refine⟨?_,by simp;omega,?_⟩
   .simp only;rw[List.set_append_right _ _ (by simp),List.length_replicate,Nat.sub_self,show ns.length-k=(ns.length-(k+1))+1 from by omega,List.replicate_succ,List.set_cons_zero,List.replicate_succ',List.append_assoc];rfl
   .simp only;rw[List.getD_eq_getElem?_getD,List.getElem?_append_right (by simp),List.length_replicate,Nat.sub_self,List.getElem?_replicate,if_pos (by omega)];rfl)
  have az:Hid (icells (List.replicate ns.length 0)=jcells (p 0)):=hid (by rw[<-V];simp[icells,jcells]);have aC:Hid (p ns.length=List.replicate ns.length (-1)):=hid (by rw[<-V];simp);clear V;obtain⟨s,P⟩:=ex (r 2)
  obtain⟨U,T⟩:=ex (b 2)
  have M:Hid (Blk wc U 38 #[.slice (some ⟨s,0,none⟩) ns.length ns.length]/\Blk wc s 3 (jcells (p 0))):=hid (by
   have h1:=(d.out.box 2 (by omega) rfl).2;have h2:=(d.out.row 2 (by omega) rfl).2;rw[az.out]at h2;subst P;subst T;exact⟨by simpa using h1,h2⟩)
  have ap:=hid (And.intro P T);(try rw[T]);clear P T;have c0:wc.cell? ⟨U,0,none⟩=some (.slice (some ⟨s,0,none⟩) ns.length ns.length):=M.out.1.cell 0;have ai:U≠s:=M.out.1.ne_ M.out.2 (by decide);go_upto_region 4 with fail;clear c0;go_loopw [25] (fun s25 wr=>∃k:Nat,k<=ns.length/\s25=.int .i64 k/\Hid (KB s wc wr/\Blk wr s 3 (jcells (p k)))) (fun s25 _=>ns.length-(intOf s25).toNat)
  case atStart=>exact⟨0,by omega,rfl,hid ⟨KB.refl _ _,M.out.2⟩⟩
  case round=>
   obtain⟨k,hk,rfl,HW⟩:=hrel;by_cases hlk:k<ns.length
   .have aj:(k:Int)<(ns.length:Int):=by omega
    have c0:wr.cell? ⟨U,0,none⟩=some (.slice (some ⟨s,0,none⟩) ns.length ns.length):=(HW.out.1.blk M.out.1 ai).cell 0;obtain⟨e1,e2,e3⟩:=av.out k hlk;have z0:wr.cell? ⟨s,k,none⟩=some (.int .i64 0):=by rw[HW.out.2.cell,zb4 (by omega),e3]
    have zf:∀i,wr.frozen? ⟨s,i,none⟩=false:=HW.out.2.frozen;have aq:Hid (KB s wc (wr.setCell ⟨s,k,none⟩ (.int .i64 (-1)))/\Blk (wr.setCell ⟨s,k,none⟩ (.int .i64 (-1))) s 3 (jcells (p (k+1)))):=hid ⟨HW.out.1.set _ _,by
     rw[<-e1,<-zf7];exact HW.out.2.set_ k _⟩
    clear e1 e2 e3 HW;go_wp2;go_roundw
    case rel=>exact⟨k+1,by omega,by go_num,aq⟩
    case measure=>simp[intOf];omega
   .have aj:¬((k:Int)<(ns.length:Int)):=by omega
    have ak:Hid (KB s wc wr/\Blk wr s 3 (jcells (List.replicate ns.length (-1)))):=hid (by
     have:=HW.out;rw[show k=ns.length from by omega,aC.out]at this;exact this)
    clear HW;go_upto_region 13 with fail;have L:=ar.out;have hw1s:w1.heap.size=Z+1:=by rw[<-ad.out,<-L];simp
    have l1:Below w.heap.size w w1:=by rw[<-ad.out];exact(Below.refl _ _).alloc (Nat.le_refl _) _
    have ag:Blk w1 Z 27 #[.slice A ns.length c,.int .i64 root]:=by rw[<-ad.out,<-L];exact Blk.new _ _ _
    obtain⟨P,T⟩:=ap.out;obtain⟨x0,y0⟩:=d.out.row 0 (by omega) rfl;obtain⟨x1,y1⟩:=d.out.row 1 (by omega) rfl;obtain⟨x2,y2⟩:=d.out.row 2 (by omega) rfl;obtain⟨_,z0⟩:=d.out.box 0 (by omega) rfl;obtain⟨_,z1⟩:=d.out.box 1 (by omega) rfl;have ax:=d.out.rr 0 1 (by omega) (by omega) (by omega) rfl rfl;have af:=d.out.rr 0 2 (by omega) (by omega) (by omega) rfl rfl;have aa:=d.out.rr 1 2 (by omega) (by omega) (by omega) rfl rfl;rw[P]at x2 y2 af aa;have ah:=ag.below d.out.below (by omega);have x:=ak.out.1;have X:Below w.heap.size w wr:=(l1.trans (d.out.below.mono (by omega))).trans (x.below (by omega) (by have:=l1.size;have:=d.out.below.size;omega));have aB:=X.size;obtain⟨z,hz⟩:=ex wr.heap.size
    rw[hz];obtain⟨W,hW⟩:=ex ((((((wr.alloc (.cells #[.slice none 0 0] 38)).alloc (.cells #[.slice none 0 0] 38)).alloc (.cells (bcells (List.replicate ns.length false)) 4)).alloc (.cells #[.slice (some ⟨z+1+1,0,none⟩) ns.length ns.length] 54)).alloc (.cells #[.int .i64 0] 3)).alloc (.cells #[(compL z Z (b 0) (b 1) U (r 0) (r 1) s).fn] 70))
    obtain⟨hT,lW,hWs⟩:=zl6 w.heap.size z Z (b 0) (b 1) U (r 0) (r 1) s A c root vs ns wr W hz hW
     (x.blk (by simpa using z0) (z0.ne_ y2 (by decide))) (x.blk (by simpa using z1) (z1.ne_ y2 (by decide))) (x.blk M.out.1 ai) (x.blk y0 af) (x.blk y1 aa) ak.out.2
     (x.blk ah (by omega)) ax af aa (by omega) (by omega) (by omega) (by omega) (H.out.below X)
    unfold compL TL.fn at hW;simp only at hW;rw[hW];have HT:=hid hT;have ao:=hid (X.trans (lW.mono aB));have v0:W.cell? ⟨z+1+1+1+1+1,0,none⟩=some (compL z Z (b 0) (b 1) U (r 0) (r 1) s).fn:=hT.xV.cell 0;unfold compL TL.fn at v0;simp only at v0;have g1:W.cell? ⟨Z,1,none⟩=some (.int .i64 root):=hT.xG.cell 1;have hC:=zl5 (y:=compL z Z (b 0) (b 1) U (r 0) (r 1) s) hr hl hks ns.length (tzero ns.length) root (fun _=>False) W _ _ hT (zhm _) hroot (zct _ _) (fun g h=>h.elim) (Nat.le_trans List.countP_le_length (by simp));unfold TL.args compL at hC;simp only at hC;have HC:=hid hC;have HX:Hid (w.heap.size<=s/\w.heap.size<=z+1+1+1+1+1+1):=hid ⟨by omega,by omega⟩;clear hW hT hC l1 ag y0 y1 y2 z0 z1 ah x X lW;go_wp2_with fail;refine HC.out.mono ?_;rintro e w9 ⟨rfl,sv,zv,h9,f9⟩;obtain⟨Az,cz,an,_⟩:=h9.siz.form;subst an;have B:w9.cell? ⟨U,0,none⟩=some (.slice (some ⟨s,0,none⟩) ns.length ns.length):=h9.xC.cell 0;have C:w9.cell? ⟨z,0,none⟩=some (.slice Az (tvisit (Gr.succ ns) ns.length (tzero ns.length) root).sizes.length cz):=h9.bZ.cell 0;have S:Hid (Below w.heap.size w w9/\Blk w9 s 3 (jcells (tcomp (Gr.succ ns) ns.length root).inn)/\OwnRow intL w9 w.heap.size 3 (.slice Az (tcomp (Gr.succ ns) ns.length root).sizes.length cz) (tcomp (Gr.succ ns) ns.length root).sizes):=
     hid ⟨ao.out.trans (HT.out.tfBelow f9),h9.rC,h9.siz.lower HX.out.2⟩
    clear v0 g1 h9 f9;go_upto_region 14 with fail;go_quiet (fail);go_wp2_with fail;refine bodyPost_ret (v:=.tuple #[.slice (some ⟨s,0,none⟩) ns.length ns.length,.slice Az (tvisit (Gr.succ ns) ns.length (tzero ns.length) root).sizes.length cz]) (by simp[results,results42,go_sem]) rfl ?_;exact⟨s,Az,cz,rfl,HX.out.1,below_drewN S.out.1 _,S.out.2.1.drewN _,S.out.2.2.drewN _⟩
theorem infoSl:(prog.info? 38).map (fun i=>(i.zero,i.size,i.bytes))=some (some (.slice none 0 0),1,24):=by kernel_rfl
theorem zjt (n:Nat) (hn:n<=1073741824) (W:World):(Instr.makeSlice 69 (.int .i64 (n:Int)) (.int .i64 (n:Int))).run prog W=.ok (.slice (some ⟨W.heap.size,0,none⟩) n n) (W.alloc (.cells (List.replicate n (Value.slice none 0 0)).toArray 38)):=by
 obtain⟨e,d,b,c,a⟩:=info_parts infoSl;have:=zbh (P:=prog) 69 38 e _ underlying69 d b .i64 .i64 n n (Nat.le_refl _) (by rw[a];omega) (by omega) W;rw[c]at this;simp only[Value.cells,zbi]at this;exact this
structure Mems (w:World) (D rM:Nat) (mv:List Value) (ml:List (List Nat)):Prop where
 blk:Blk w rM 38 mv.toArray
 lo:rM<D
 hd:D<=w.heap.size
 len:mv.length=ml.length
 own:∀c (h1:c<mv.length) (h2:c<ml.length),OwnRow intL w D 3 mv[c] ml[c]
 ap:∀c c' (h1:c<mv.length) (h2:c'<mv.length),c≠c'->∀k,mv[c].ownBlock=some k->mv[c'].ownBlock≠some k
section
variable {w w' w2:World} {D rM:Nat} {mv:List Value} {ml:List (List Nat)}
theorem Mems.start {m:Nat} (hb:Blk w rM 38 (List.replicate m (Value.slice none 0 0)).toArray) (lo:rM<D) (hd:D<=w.heap.size):Mems w D rM (List.replicate m (.slice none 0 0)) (List.replicate m []):=
 ⟨hb,lo,hd,by simp,fun c b a=>by simp only[List.getElem_replicate];exact OwnRow.nil,fun c c' b a _ k e=>by simp only[List.getElem_replicate]at e;cases e⟩
theorem Mems.later (h:Mems w D rM mv ml) (hb:Below w.heap.size w w'):Mems w' D rM mv ml:=
 ⟨h.blk.below hb h.blk.lt,h.lo,Nat.le_trans h.hd hb.size,h.len,fun c a b=>(h.own c a b).later hb,h.ap⟩
theorem Mems.alloc (h:Mems w D rM mv ml) (o:Obj):Mems (w.alloc o) D rM mv ml:=h.later ((Below.refl _ _).alloc (Nat.le_refl _) o)
theorem Mems.kb {g:Nat} (h:Mems w D rM mv ml) (hk:KB g w w') (hg:g<D) (hne:g≠rM):Mems w' D rM mv ml:=by
 refine⟨hk.blk h.blk (Ne.symm hne),h.lo,Nat.le_trans h.hd hk.size,h.len,fun c m l=>?_,h.ap⟩;have j:=h.own c m l;have d:=j.lt;refine⟨j.1,j.2.imp id ?_⟩;rintro⟨a,f,b,k,i,n,r⟩;have e:mv[c].ownBlock=some a:=by rw[k];rfl
 have:=d a e;exact⟨a,f,b,k,i,(hk.block a (by omega) (by omega)).trans n,r⟩
theorem Mems.grown (h:Mems w D rM mv ml) {c:Nat} (hc:c<mv.length) {v2:Value} {l:List Nat} (ho:OwnRow intL w2 D 3 v2 l) (hg:w.grownBy w2 (mv[c]).ownBlock) (hat:v2.ownBlock=(mv[c]).ownBlock\/v2.ownBlock=some w.heap.size):
 Mems (w2.setCell ⟨rM,c,none⟩ v2) D rM (mv.set c v2) (ml.set c l):=by
 have j:c<ml.length:=by rw[<-h.len];exact hc
 have g:=h.lo;have hsz:=hg.size;have i:Blk w2 rM 38 mv.toArray:=h.blk.grown hg (fun e=>by have:=((h.own c hc j).lt rM e.symm).1;omega);have hap:∀c' (h1:c'<mv.length),c'≠c->∀k,v2.ownBlock=some k->mv[c'].ownBlock≠some k:=by
  intro c' h1 a k e d;rcases hat with h3|h3
  .exact h.ap c' c h1 hc a k d (h3.symm.trans e)
  .have:=((h.own c' h1 (by rw[<-h.len];exact h1)).lt k d).2;rw[h3]at e;injection e with e;omega
 refine⟨?_,g,?_,by simp[h.len],?_,?_⟩
 .have:=i.set_ c v2;simpa using this
 .have:=h.hd;simp[World.setCell];omega
 .intro c' h1 b;simp only[List.length_set]at h1 b;by_cases hcc:c'=c
  .subst hcc;simp only[List.getElem_set_self];exact ho.setCell (p:=⟨rM,c',none⟩) (fun e=>by have:=(ho.lt _ e).1;simp only at this;omega) _
  .simp only[List.getElem_set_ne (Ne.symm hcc)];have h3:=h.own c' h1 b;have f:=h3.off hg (fun k e d=>h.ap c' c h1 hc hcc k e d.symm);exact f.setCell (p:=⟨rM,c,none⟩) (fun e=>by have:=(h3.lt _ e).1;simp only at this;omega) _
 .intro m n h1 b a k e;simp only[List.length_set]at h1 b;by_cases h3:m=c
  .grind
  .simp only[List.getElem_set_ne (Ne.symm h3)]at e;by_cases f:n=c
   .grind
   .simp only[List.getElem_set_ne (Ne.symm f)];exact h.ap m n h1 b a k e
theorem Mems.grownKB {w4:World} (h:Mems w D rM mv ml) (hk:KB rM w4 w) (hD:w4.heap.size=D) {c:Nat} (hc:c<mv.length) (v2:Value) (hg:w.grownBy w2 (mv[c]).ownBlock):
 KB rM w4 (w2.setCell ⟨rM,c,none⟩ v2):=by
 have b:c<ml.length:=by rw[<-h.len];exact hc
 have a:Below D w w2:=(h.own c hc b).grown_below hg h.hd;refine KB.set ⟨a.os.trans hk.os,a.tape.trans hk.tape,a.output.trans hk.output,Nat.le_trans hk.size a.size,fun k d e=>(a.block k (by omega)).trans (hk.block k d e)⟩ _ _
theorem Mems.at_ (h:Mems w D rM mv ml) {c:Nat} (hc:c<ml.length):∃A cap,mv[c]? =some (.slice A (ml[c]).length cap)/\w.cell? ⟨rM,c,none⟩=some (.slice A (ml[c]).length cap)/\RowAt intL w w.heap.size A ml[c]:=by
 have a:c<mv.length:=by rw[h.len];exact hc
 obtain⟨A,cap,b,d⟩:=(h.own c a hc).form;refine⟨A,cap,by rw[List.getElem?_eq_getElem a,b],?_,d⟩;rw[h.blk.cell];simp[List.getElem?_eq_getElem a,b]
theorem Mems.row (h:Mems w D rM mv ml) {c:Nat} (hc:c<ml.length) {A:Option Addr} {n cap:Nat} (e:mv[c]? =some (.slice A n cap)):RowAt intL w w.heap.size A ml[c]:=by
 obtain⟨A',cap',a,_,b⟩:=h.at_ hc;rw[a]at e;injection e with e
 injection e with e _ _
 subst e;exact b
end
theorem zh5 (inn:Nat->Int) (i c:Nat):members inn (i+1) c=if inn i=(c:Int)then members inn i c++[i]else members inn i c:=by
 unfold members;rw[List.range_succ,List.filter_append];by_cases h:inn i=(c:Int)<;>simp[h]
def memsL (inn:Nat->Int) (i m:Nat):List (List Nat):=(List.range m).map (fun c=>members inn i c)
theorem zch (inn:Nat->Int) (i m:Nat):(memsL inn i m).length=m:=by simp[memsL]
theorem zl8 (inn:Nat->Int) (m:Nat):memsL inn 0 m=List.replicate m []:=by
 unfold memsL;apply List.ext_getElem
 .simp
 .intro i h1 h2;simp[members]
theorem zci (inn:Nat->Int) (i m c:Nat) (h:c<(memsL inn i m).length):(memsL inn i m)[c]=members inn i c:=by simp[memsL]
theorem zl9 (inn:Nat->Int) (i m c:Nat) (h:inn i=(c:Int)):memsL inn (i+1) m=(memsL inn i m).set c (members inn i c++[i]):=by
 apply List.ext_getElem
 .simp[memsL]
 .intro k h1 h2;rw[zci,zh5];by_cases hk:k=c
  .grind
  .rw[List.getElem_set_ne (Ne.symm hk),if_neg (by omega),zci]
theorem ze1 (inn:Nat->Int) (i c:Nat):(members inn i c).length<=i:=by
 unfold members;exact Nat.le_trans (List.length_filter_le _ _) (by simp)
theorem zma (inn:Nat->Int) (n c:Nat):∀x∈members inn n c,x<n:=by
 intro x a;unfold members at a;exact List.mem_range.1 (List.mem_filter.1 a).1
def Sml (M:Nat) (p:List Nat×Bool):Prop:=∀k,p.1.getD k 0<=M
theorem Sml.step {M:Nat} {inn:Nat->Int} {c:Nat} {p:List Nat×Bool} (h:Sml M p) (x:Nat):Sml M (dstep inn c p x):=by
 unfold dstep;split
 .exact h
 .intro k;show(p.1.set c _).getD k 0<=M;by_cases hk:c=k
  .subst hk;by_cases hl:c<p.1.length
   .rw[za1 _ _ _ _ hl];have:=h c;have:=h (inn x).toNat;omega
   .grind
  .rw[Gr.getD_set_ne _ _ _ _ _ hk];exact h k
theorem Sml.fold {M:Nat} {inn:Nat->Int} {c:Nat} (L:List Nat):∀{p:List Nat×Bool},Sml M p->Sml M (L.foldl (dstep inn c) p):=by
 induction L with
 |nil=>intro p h;exact h
 |cons x L ih=>intro p h;rw[List.foldl_cons];exact ih (h.step x)
theorem Sml.foldM {M:Nat} {inn:Nat->Int} {c:Nat} (sc:Nat->List Nat) (L:List Nat):∀{p:List Nat×Bool},Sml M p->Sml M (L.foldl (fun p i=>(sc i).foldl (dstep inn c) p) p):=by
 induction L with
 |nil=>intro p h;exact h
 |cons x L ih=>intro p h;rw[List.foldl_cons];exact ih (h.fold _)
theorem zpf (inn:Nat->Int) (c:Nat) (p:List Nat×Bool) (x:Nat):(dstep inn c p x).1.length=p.1.length:=by
 unfold dstep;split<;>simp
theorem ze2 (inn:Nat->Int) (c:Nat) (L:List Nat):∀p:List Nat×Bool,(L.foldl (dstep inn c) p).1.length=p.1.length:=by
 induction L with
 |nil=>intro p;rfl
 |cons x L ih=>intro p;rw[List.foldl_cons,ih,zpf]
theorem zdw (inn:Nat->Int) (c:Nat) (sc:Nat->List Nat) (L:List Nat):∀p:List Nat×Bool,(L.foldl (fun p i=>(sc i).foldl (dstep inn c) p) p).1.length=p.1.length:=by
 induction L with
 |nil=>intro p;rfl
 |cons x L ih=>intro p;rw[List.foldl_cons,ih,ze2]
theorem zpg (sc:Nat->List Nat) (inn:Nat->Int) (n:Nat) (sizes:List Nat) (p:List Nat×Bool) (c:Nat):(dcomp sc inn n sizes p c).1.length=p.1.length:=by
 unfold dcomp;simp[zdw]
theorem zf8 (sc:Nat->List Nat) (inn:Nat->Int) (n:Nat) (sizes:List Nat) (L:List Nat):∀p:List Nat×Bool,(L.foldl (dcomp sc inn n sizes) p).1.length=p.1.length:=by
 induction L with
 |nil=>intro p;rfl
 |cons x L ih=>intro p;rw[List.foldl_cons,ih,zpg]
theorem Sml.comp {M N:Nat} {sc:Nat->List Nat} {inn:Nat->Int} {n:Nat} {sizes:List Nat} {p:List Nat×Bool} (h:Sml M p) (c:Nat) (hN:∀k,sizes.getD k 0<=N):Sml (M+N) (dcomp sc inn n sizes p c):=by
 unfold dcomp;have a:=h.foldM (inn:=inn) (c:=c) sc (members inn n c);obtain⟨q,b⟩:=ex ((members inn n c).foldl (fun p i=>(sc i).foldl (dstep inn c) p) p)
 rw[b]at a;rw[b];intro k;show(q.1.set c _).getD k 0<=_;have:=a k;by_cases hk:c=k
 .grind
 .grind
theorem Sml.comps {N:Nat} {sc:Nat->List Nat} {inn:Nat->Int} {n:Nat} {sizes:List Nat} {p:List Nat×Bool} (h:Sml 0 p) (hN:∀k,sizes.getD k 0<=N) (k:Nat):Sml (k*N) ((List.range k).foldl (dcomp sc inn n sizes) p):=by
 induction k with
 |zero=>simpa using h
 |succ k ih=>
  rw[List.range_succ,List.foldl_append,Nat.add_mul,Nat.one_mul];exact ih.comp k hN
theorem rep48 (n:Nat):Lib.repeatL [48] n=List.replicate n (48:UInt8):=by
 induction n with
 |zero=>rfl
 |succ n ih=>
  show[48]++Lib.repeatL [48] n=_;rw[ih];rfl
theorem zcb (x n:Nat) (i j:Int) (hi:i=(x:Int)) (hj:j=(n:Int)) (h1:1<=n) (hn:n<=9) (hx:x<10 ^ n) (w:World) (hT:UT w):
 Calls prog 114 #[.int .i64 i,.int .i64 j] w fun e w'=>e=.returned (.string ⟨(Gr.pd n x).toArray⟩)/\Below w.heap.size w w':=by
 subst hi;subst hj;have hx9:x<1000000000:=Nat.lt_of_lt_of_le hx (Nat.pow_le_pow_right (n:=10) (by omega) (show n<=9 by omega));have b:(Lib.decDigits x).length<=n:=by rw[Lib.decDigits_length];exact Nat.le_of_succ_le_succ (by have:=Gr.zbm (n-1) x (by rwa[show n-1+1=n from by omega]);omega)
 have p:=hid (fun(W:World) (hW:UT W)=>zgx (x:Int) (by omega) (by omega) W hW);rw[Gr.zgp]at p;have a:=hid (Gr.zo1 n x h1 hx);obtain⟨d,t⟩:=ex (Lib.decDigits x)
 rw[t]at p a b;obtain⟨r,s⟩:=ex (Gr.pd n x)
 rw[s]at a ⊢;obtain⟨z,m⟩:=ex (List.replicate (n-d.length) (48:UInt8))
 have hzl:z.length<=9:=by rw[<-m];simp;omega
 have l:Hid (∀W,Calls prog 143 #[.string ⟨#[48]⟩,.int .i64 ((n-d.length:Nat):Int)] W fun e w'=>e=.returned (.string ⟨z.toArray⟩)/\Below W.heap.size W w'):=hid (fun W=>by
  have:=strings_Repeat ⟨#[48]⟩ (n-d.length) W (by omega) (by show 1*(n-d.length)<=_;omega);rw[show(⟨#[48]⟩:ByteArray).data.toList=[48]from rfl,rep48,m]at this;exact this)
 rw[m]at a;have g:((n-d.length:Nat):Int)=max 0 ((n:Int)-(d.length:Int)):=by omega
 rw[g]at l;have hm0:0<=(n:Int)-(d.length:Int):=by omega
 have f:=fun W=>zac z d (by omega) W
 rw[a.out]at f;have q:=hid hT;clear t s m g hT hx;go_enter func114,ntmps114;go_wp2_with fail;refine(p.out _ q.out).mono ?_;rintro e w1 ⟨rfl,c⟩;have k:=hid c;clear c;go_wp2_with fail;refine(l.out _).mono ?_;rintro e u ⟨rfl,h⟩;have o:Hid (Below w.heap.size w u):=hid (k.out.trans (h.mono k.out.size));clear h;go_wp2;go_ret;exact⟨rfl,o.out⟩
theorem zii (date time zone:Bool) (y m d h mi c nanos off:Int) (late:Bool) (h0:0<=y) (h1:y<=9999) (h2:1<=m) (h3:m<=12) (h4:0<=d) (h5:d<=1000) (h6:0<=h) (h7:h<=1000) (h8:0<=mi) (h9:mi<=1000) (h10:0<=c) (h11:c<=1000) (h12:-1000000<=off) (h13:off<=1000000) (w:World):
 Calls prog 179 #[.agg #[.bool date,.bool time,.bool zone,.int .i64 y,.int .i64 m,.int .i64 d,.int .i64 h,.int .i64 mi,.int .i64 c,.int .i64 nanos,.int .i64 off,.bool late]] w fun e w'=>e=.returned (.int .i64 (86400*Cal.num y m d+3600*h+60*mi+c-off))/\Below w.heap.size w w':=by
 have t:=Lib.hid (fun W=>zib y m d h0 (by omega) h2 h3 h4 h5 W);have j:=Cal.zxs y h0 (by omega);have n:=Cal.zxw y m;have r:-800000<=Cal.num y m d:=by unfold Cal.num;omega
 have o:Cal.num y m d<=4000000:=by unfold Cal.num;omega
 obtain⟨q,s⟩:=ex (Cal.num y m d)
 rw[s]at t r o ⊢;clear j n s;go_enter func179,ntmps179;go_upto_region 1 with fail;obtain⟨f,g⟩:=ex w.heap.size
 obtain⟨b,i⟩:∃b,b=w.alloc (.cells #[.bool date,.bool time,.bool zone,.int .i64 y,.int .i64 m,.int .i64 d,.int .i64 h,.int .i64 mi,.int .i64 c,.int .i64 nanos,.int .i64 off,.bool late] 165):=⟨_,rfl⟩
 have a:Hid (Blk b f 165 (T12 date time zone y m d h mi c nanos off late)/\Below f w b):=Lib.hid (by rw[i,<-g];exact⟨Blk.new _ _ _,(Below.refl _ _).alloc (Nat.le_refl _) _⟩);have l:=Lib.hid g;(try rw[<-i]);(try rw[g]);clear i g;have u:∀W:WB b.heap.size b,W.w.cell? ⟨f,3,none⟩=some (.int .i64 y):=fun W=>(W.h.cell (p:=⟨f,3,none⟩) a.out.1.lt).trans (a.out.1.cell 3)
 have D:∀W:WB b.heap.size b,W.w.cell? ⟨f,4,none⟩=some (.int .i64 m):=fun W=>(W.h.cell (p:=⟨f,4,none⟩) a.out.1.lt).trans (a.out.1.cell 4)
 have z:∀W:WB b.heap.size b,W.w.cell? ⟨f,5,none⟩=some (.int .i64 d):=fun W=>(W.h.cell (p:=⟨f,5,none⟩) a.out.1.lt).trans (a.out.1.cell 5)
 have C:∀W:WB b.heap.size b,W.w.cell? ⟨f,6,none⟩=some (.int .i64 h):=fun W=>(W.h.cell (p:=⟨f,6,none⟩) a.out.1.lt).trans (a.out.1.cell 6)
 have x:∀W:WB b.heap.size b,W.w.cell? ⟨f,7,none⟩=some (.int .i64 mi):=fun W=>(W.h.cell (p:=⟨f,7,none⟩) a.out.1.lt).trans (a.out.1.cell 7)
 have v:∀W:WB b.heap.size b,W.w.cell? ⟨f,8,none⟩=some (.int .i64 c):=fun W=>(W.h.cell (p:=⟨f,8,none⟩) a.out.1.lt).trans (a.out.1.cell 8)
 have k:∀W:WB b.heap.size b,W.w.cell? ⟨f,10,none⟩=some (.int .i64 off):=fun W=>(W.h.cell (p:=⟨f,10,none⟩) a.out.1.lt).trans (a.out.1.cell 10)
 have x1:IntKind.i64.wrap (86400*q)=86400*q:=IntWalk.i64_in _ (by omega);have x2:IntKind.i64.wrap (3600*h)=3600*h:=IntWalk.i64_in _ (by omega);have x3:IntKind.i64.wrap (86400*q+3600*h)=86400*q+3600*h:=IntWalk.i64_in _ (by omega);have x4:IntKind.i64.wrap (60*mi)=60*mi:=IntWalk.i64_in _ (by omega);have x5:IntKind.i64.wrap (86400*q+3600*h+60*mi)=86400*q+3600*h+60*mi:=IntWalk.i64_in _ (by omega);have x6:IntKind.i64.wrap (86400*q+3600*h+60*mi+c)=86400*q+3600*h+60*mi+c:=IntWalk.i64_in _ (by omega);have x7:IntKind.i64.wrap (86400*q+3600*h+60*mi+c-off)=86400*q+3600*h+60*mi+c-off:=IntWalk.i64_in _ (by omega);refine zab b.heap.size b (by kernel_rfl) (by kernel_rfl) (Below.refl _ _) ?_
 iterate 23 (try go_big_quiet_step ((with_reducible refine Calls.grow ((t.out _).mono (fun _ _ ⟨E,B⟩=>⟨E,B▸WB.h _⟩)))))
 refine wpQuiet_nil ?_;rintro _ ⟨A,rfl⟩;clear u D z C x v k;go_wp2;go_ret;rw[l.out];exact⟨rfl,a.out.2.trans (A.h.mono (Nat.le_of_lt a.out.1.lt))⟩
structure MoOk (x:Gr.Mo):Prop where
 y:x.y<=9999
 m:x.m<=99
 d:x.d<=99
 h:x.h<=99
 mi:x.mi<=99
 c:x.c<=99
 nanos:x.nanos<=999999999
 zh:x.zh<=99
 zm:x.zm<=99
 sh:(x.date=true/\x.time=true)\/(x.date=true/\x.time=false/\x.z=0)\/(x.date=false/\x.time=true/\x.z=0)
 z0:x.z=0->x.zh=0/\x.zm=0
theorem numAt2 {s:Gr.Str} {a v:Nat} (h:numAt s a 2=some v):v<=99:=by
 have:=(zcw h (by omega)).2.1;omega
theorem numAt4 {s:Gr.Str} {a v:Nat} (h:numAt s a 4=some v):v<=9999:=by
 have:=(zcw h (by omega)).2.1;omega
theorem zk8 {s:Gr.Str} {a:Nat} {k:Gr.Ck} (h:clockAt s a=some k):k.h<=99/\k.m<=99/\k.s<=99/\k.nanos<=999999999:=by
 unfold clockAt at h;split at h
 .rename_i h1 h2 h3;have c:=numAt2 h1;have f:=numAt2 h2;have d:=numAt2 h3;split at h
  .split at h
   .split at h
    .cases h
    .rename_i hn;injection h with h
     subst h;refine⟨c,f,d,?_⟩;have e:=zea (s.drop (a+9));have b:=zev _ e;generalize (s.drop (a+9)).takeWhile Gr.dig=l at *;have:Gr.val l*10 ^ (9-l.length)<10 ^ l.length*10 ^ (9-l.length):=Nat.mul_lt_mul_of_pos_right b (Nat.pow_pos (by omega));rw[<-Nat.pow_add,show l.length+(9-l.length)=9 from by omega]at this;show Gr.val l*10 ^ (9-l.length)<=999999999;omega
   .grind
  .cases h
 .cases h
theorem zwg {s:Gr.Str} {a:Nat} {z:Gr.Zn} (h:zoneAt s a=some z):z.h<=99/\z.m<=99:=by
 unfold zoneAt at h;split at h
 .grind
 .split at h
  .rename_i h1 h2;split at h
   .injection h with h;subst h;exact⟨numAt2 h1,numAt2 h2⟩
   .cases h
  .cases h
theorem zp4 {s:Gr.Str} {x:Gr.Mo} (h:Gr.rd s=some x):MoOk x:=by
 unfold Gr.rd at h;split at h
 .split at h
  .rename_i k hk;obtain⟨a,b,c,f⟩:=zk8 hk;split at h
   .injection h with h;subst h
    exact⟨Nat.zero_le _,Nat.zero_le _,Nat.zero_le _,a,b,c,f,Nat.zero_le _,Nat.zero_le _,.inr (.inr ⟨rfl,rfl,rfl⟩),fun _=>⟨rfl,rfl⟩⟩
   .cases h
  .cases h
 .rename_i y m d hd;have l:y<=9999/\m<=99/\d<=99:=by
   unfold dateAt at hd;split at hd
   .rename_i h1 h2 h3;split at hd
    .injection hd with hd
     injection hd with e1 e2
     injection e2 with e2 e3
     subst e1 e2 e3;exact⟨numAt4 h1,numAt2 h2,numAt2 h3⟩
    .cases hd
   .cases hd
  obtain⟨i,j,g⟩:=l;split at h
  .injection h with h;subst h
   exact⟨i,j,g,Nat.zero_le _,Nat.zero_le _,Nat.zero_le _,Nat.zero_le _,Nat.zero_le _,Nat.zero_le _,.inr (.inl ⟨rfl,rfl,rfl⟩),fun _=>⟨rfl,rfl⟩⟩
  .split at h
   .split at h
    .cases h
    .rename_i k hk;obtain⟨a,b,c,f⟩:=zk8 hk;split at h
     .injection h with h;subst h
      exact⟨i,j,g,a,b,c,f,Nat.zero_le _,Nat.zero_le _,.inl ⟨rfl,rfl⟩,fun _=>⟨rfl,rfl⟩⟩
     .split at h
      .rename_i z hz;obtain⟨o,n⟩:=zwg hz;split at h
       .injection h with h;subst h
        exact⟨i,j,g,a,b,c,f,o,n,.inl ⟨rfl,rfl⟩,fun e=>absurd e (zpy hz)⟩
       .cases h
      .cases h
   .cases h
theorem zp5 {x:Gr.Mo} (h:MoOk x):rngB x.date x.y x.m x.d x.h x.mi x.c (decide (23<x.zh) || decide (59<x.zm))=okR x:=by
 unfold rngB okR Cal.vld;have f:decide ((0:Int)<=(x.y:Int))=true:=by simp
 have a:decide ((x.y:Int)<=9999)=true:=by have:=h.y;simp;omega
 rw[f,a];have i:decide ((x.h:Int)<=23)=decide (x.h<=23):=by rw[Bool.eq_iff_iff];simp;omega
 have g:decide ((x.mi:Int)<=59)=decide (x.mi<=59):=by rw[Bool.eq_iff_iff];simp;omega
 have e:decide ((x.c:Int)<=59)=decide (x.c<=59):=by rw[Bool.eq_iff_iff];simp;omega
 have b:(!(decide (23<x.zh) || decide (59<x.zm)))=(decide (x.zh<=23) && decide (x.zm<=59)):=by rw[Bool.eq_iff_iff];simp
 rw[i,g,e,b];cases x.date<;>simp[Bool.and_assoc,Bool.and_comm,Bool.and_left_comm]
end Go.Proofs.YtpjmhafmeieloabGreatDoor

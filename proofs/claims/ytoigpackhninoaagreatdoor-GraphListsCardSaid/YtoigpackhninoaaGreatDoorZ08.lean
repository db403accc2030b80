import Derived.Test.YtoigpackhninoaaGreatDoorZ07
namespace Go.Proofs.YtoigpackhninoaaGreatDoor
open Gr
open _root_.Go.Proofs.Tryz
open _root_.Go.Lib (hid)
set_option maxRecDepth 100000
set_option maxHeartbeats 16000000
open Go.RowKit
structure Mk3 (n:Nat) (w1 W:World) (f:Nat->Bool) (r b:Nat->Nat):Prop where
 below:Below w1.heap.size w1 W
 row:∀j,j<3->f (2*j+1)=true->w1.heap.size<=r j/\Blk W (r j) 3 (icells (List.replicate n 0))
 box:∀j,j<3->f (6+j)=true->w1.heap.size<=b j/\Blk W (b j) 33 #[if f (9+j)then .slice (some ⟨r j,0,none⟩) n n else .slice none 0 0]
 rr:∀j k,j<3->k<3->j≠k->f (2*j+1)=true->f (2*k+1)=true->r j≠r k
 bb:∀j k,j<3->k<3->j≠k->f (6+j)=true->f (6+k)=true->b j≠b k
def upd {α:Type} (f:Nat->α) (i:Nat) (x:α):Nat->α:=fun k=>if k=i then x else f k
theorem Mk3.start (n:Nat) (w1:World) (r b:Nat->Nat):Mk3 n w1 w1.drew (fun _=>false) r b:=
 ⟨below_drewN (Below.refl _ _) 1,fun _ _ h=>by(cases h),fun _ _ h=>by(cases h),fun _ _ _ _ _ h=>by(cases h),fun _ _ _ _ _ h=>by(cases h)⟩
variable {n:Nat} {w1 W:World} {f:Nat->Bool} {r b:Nat->Nat}
theorem Mk3.mark (h:Mk3 n w1 W f r b) (i:Nat) (hi:i=0\/i=2\/i=4):Mk3 n w1 W (upd f i true) r b:=by
 have e:∀k,k≠i->upd f i true k=f k:=fun k c=>by unfold upd;rw[if_neg c]
 refine⟨h.below,fun j a=>?_,fun j a=>?_,fun j k a c=>?_,fun j k a c=>?_⟩
 ·rw[e _ (by omega)];exact h.row j a
 ·rw[e _ (by omega),e _ (by omega)];exact h.box j a
 ·rw[e _ (by omega),e _ (by omega)];exact h.rr j k a c
 ·rw[e _ (by omega),e _ (by omega)];exact h.bb j k a c
theorem Mk3.make (h:Mk3 n w1 W f r b) (j0:Nat) (hj0:j0<3) (hs:f (9+j0)=false):Mk3 n w1 (W.alloc (.cells (icells (List.replicate n 0)) 3)) (upd f (2*j0+1) true) (upd r j0 W.heap.size) b:=by
 have e:∀k,k≠2*j0+1->upd f (2*j0+1) true k=f k:=fun k a=>by unfold upd;rw[if_neg a]
 have l:∀k,k≠j0->upd r j0 W.heap.size k=r k:=fun k a=>by unfold upd;rw[if_neg a]
 have g:upd r j0 W.heap.size j0=W.heap.size:=by unfold upd;rw[if_pos rfl]
 have m:=h.below.size;refine⟨h.below.alloc m _,fun j d c=>?_,fun j d=>?_,fun j k d a p c o=>?_,fun j k d a=>?_⟩
 ·by_cases hjj:j=j0
  ·subst hjj;rw[g];exact⟨m,Blk.new _ _ _⟩
  ·rw[e _ (by omega)]at c;rw[l _ hjj];obtain⟨q,i⟩:=h.row j d c;exact⟨q,i.alloc _⟩
 ·rw[e _ (by omega),e _ (by omega)];intro c;obtain⟨q,i⟩:=h.box j d c;refine⟨q,?_⟩;by_cases hjj:j=j0
  ·subst hjj;rw[hs]at i ⊢;exact i.alloc _
  ·rw[l _ hjj];exact i.alloc _
 ·by_cases hjj:j=j0
  ·subst hjj;rw[g,l k (by omega)];rw[e _ (by omega)]at o;have:=(h.row k a o).2.lt;omega
  ·rw[e _ (by omega)]at c;rw[l j hjj];by_cases hkk:k=j0
   ·subst hkk;rw[g];have:=(h.row j d c).2.lt;omega
   ·rw[e _ (by omega)]at o;rw[l k hkk];exact h.rr j k d a p c o
 ·rw[e _ (by omega),e _ (by omega)];exact h.bb j k d a
theorem Mk3.boxed (h:Mk3 n w1 W f r b) (j0:Nat) (hj0:j0<3) (hs:f (9+j0)=false):Mk3 n w1 (W.alloc (.cells #[.slice none 0 0] 33)) (upd f (6+j0) true) r (upd b j0 W.heap.size):=by
 have e:∀k,k≠6+j0->upd f (6+j0) true k=f k:=fun k a=>by unfold upd;rw[if_neg a]
 have l:∀k,k≠j0->upd b j0 W.heap.size k=b k:=fun k a=>by unfold upd;rw[if_neg a]
 have g:upd b j0 W.heap.size j0=W.heap.size:=by unfold upd;rw[if_pos rfl]
 have i:=h.below.size;refine⟨h.below.alloc i _,fun j d=>?_,fun j d c=>?_,fun j k d a=>?_,fun j k d a p c m=>?_⟩
 ·rw[e _ (by omega)];intro c;obtain⟨q,o⟩:=h.row j d c;exact⟨q,o.alloc _⟩
 ·rw[e (9+j) (by omega)];by_cases hjj:j=j0
  ·subst hjj;rw[g,hs];exact⟨i,Blk.new _ _ _⟩
  ·rw[e _ (by omega)]at c;rw[l _ hjj];obtain⟨q,o⟩:=h.box j d c;exact⟨q,o.alloc _⟩
 ·rw[e _ (by omega),e _ (by omega)];exact h.rr j k d a
 ·by_cases hjj:j=j0
  ·subst hjj;rw[g,l k (by omega)];rw[e _ (by omega)]at m;have:=(h.box k a m).2.lt;omega
  ·rw[e _ (by omega)]at c;rw[l j hjj];by_cases hkk:k=j0
   ·subst hkk;rw[g];have:=(h.box j d c).2.lt;omega
   ·rw[e _ (by omega)]at m;rw[l k hkk];exact h.bb j k d a p c m
theorem Mk3.fill (h:Mk3 n w1 W f r b) (j0:Nat) (hj0:j0<3) (hb:f (6+j0)=true):Mk3 n w1 (W.setCell ⟨b j0,0,none⟩ (.slice (some ⟨r j0,0,none⟩) n n)) (upd f (9+j0) true) r b:=by
 have e:∀k,k≠9+j0->upd f (9+j0) true k=f k:=fun k c=>by unfold upd;rw[if_neg c]
 have m:upd f (9+j0) true (9+j0)=true:=by unfold upd;rw[if_pos rfl]
 obtain⟨o,l⟩:=h.box j0 hj0 hb;refine⟨h.below.setCell (p:=⟨b j0,0,none⟩) o _,fun j a=>?_,fun j a d=>?_,fun j k a c=>?_,fun j k a c=>?_⟩
 ·rw[e _ (by omega)];intro d;obtain⟨i,g⟩:=h.row j a d;exact⟨i,g.far (g.ne_ l (by decide)) _⟩
 ·rw[e (6+j) (by omega)]at d;obtain⟨i,g⟩:=h.box j a d;refine⟨i,?_⟩;by_cases hjj:j=j0
  ·subst hjj;rw[m,if_pos rfl];exact l.set_ 0 _
  ·rw[e (9+j) (by omega)];exact g.far (h.bb j j0 a hj0 hjj d hb) _
 ·rw[e _ (by omega),e _ (by omega)];exact h.rr j k a c
 ·rw[e _ (by omega),e _ (by omega)];exact h.bb j k a c
def left12 (f:Nat->Bool):Nat:=cond (f 0) 0 1+cond (f 1) 0 1+cond (f 2) 0 1+cond (f 3) 0 1+cond (f 4) 0 1+cond (f 5) 0 1+cond (f 6) 0 1+cond (f 7) 0 1+cond (f 8) 0 1+cond (f 9) 0 1+cond (f 10) 0 1+cond (f 11) 0 1
theorem zao (f:Nat->Bool) (i:Nat) (hi:i<12) (h:f i=false):left12 f=left12 (upd f i true)+1:=by
 unfold left12 upd;obtain rfl|rfl|rfl|rfl|rfl|rfl|rfl|rfl|rfl|rfl|rfl|rfl:i=0\/i=1\/i=2\/i=3\/i=4\/i=5\/i=6\/i=7\/i=8\/i=9\/i=10\/i=11:=by omega
 all_goals
  simp only[h,if_true,cond_true,cond_false];simp
  try omega
theorem zfn (A:Option Addr) (c root:Nat) (vs:List NV) (ns:List Gr.Nd) (hr:Refs ns) (hl:ns.length<=1073741823) (hks:∀n∈ns,n.keys.length<=1073741823/\n.items.length<=1073741823) (hroot:root<ns.length)
 (w:World) (h:GAt w w.heap.size A vs ns):
 Calls prog 65 #[.agg #[.slice A ns.length c,.int .i64 root]] w fun e w'=>∃rC Az cz,e=.returned (.tuple #[.slice (some ⟨rC,0,none⟩) ns.length ns.length,.slice Az (tcomp (Gr.succ ns) ns.length root).sizes.length cz])/\w.heap.size<=rC/\Below w.heap.size w w'/\
  Blk w' rC 3 (jcells (tcomp (Gr.succ ns) ns.length root).inn)/\OwnRow intL w' w.heap.size 3 (.slice Az (tcomp (Gr.succ ns) ns.length root).sizes.length cz) (tcomp (Gr.succ ns) ns.length root).sizes:=by
 have H:=hid h;have aa:=fun W=>zbz ns.length (by omega) W
 have hmb:=fun W=>zb0 ns.length (by omega) W
 have hrI:(root:Int)<(ns.length:Int):=by omega
 clear h;go_enter func65,ntmps65;go_upto_region 2 with fail;obtain⟨w1,ac⟩:=ex (w.alloc (.cells #[.slice A ns.length c,.int .i64 root] 24))
 (try rw[ac]);have ae:=hid ac;obtain⟨V,O⟩:=ex w.heap.size
 (try rw[O]);have aC:=hid O;clear ac O;go_cut [5,6,7] (fun s5 s6 s7 wx=>∃r b:Nat->Nat,s5=.pointer (some ⟨b 0,0,none⟩)/\s6=.pointer (some ⟨b 1,0,none⟩)/\s7=.pointer (some ⟨b 2,0,none⟩)/\Hid (Mk3 ns.length w1 wx (fun _=>true) r b))
 case first=>
  refine wp_region_any (by kernel_rfl) ?_;refine zl3 (fun m t a' w'=>∃(f:Nat->Bool) (r b:Nat->Nat) (x17 x18 x19 x20 x21 x22 p5 p6 p7:Value),t=#[f 0,f 1,f 2,f 3,f 4,f 5,f 6,f 7,f 8,f 9,f 10,f 11]/\m=left12 f/\Hid (Mk3 ns.length w1 w' f r b)/\(f 0=true->x17=.int .i64 ns.length)/\(f 1=true->x18=.slice (some ⟨r 0,0,none⟩) ns.length ns.length)/\(f 6=true->p5=.pointer (some ⟨b 0,0,none⟩))/\(f 9=true->f 1=true/\f 6=true)/\(f 2=true->x19=.int .i64 ns.length)/\(f 3=true->x20=.slice (some ⟨r 1,0,none⟩) ns.length ns.length)/\(f 7=true->p6=.pointer (some ⟨b 1,0,none⟩))/\(f 10=true->f 3=true/\f 7=true)/\(f 4=true->x21=.int .i64 ns.length)/\(f 5=true->x22=.slice (some ⟨r 2,0,none⟩) ns.length ns.length)/\(f 8=true->p7=.pointer (some ⟨b 2,0,none⟩))/\(f 11=true->f 5=true/\f 8=true)/\a'={tmps:=List.toArray (.agg #[.slice A ns.length c,.int .i64 root]::.pointer (some ⟨V,0,none⟩)::.slice none 0 0::.slice none 0 0::.int .i64 ns.length::p5::p6::p7::undef::undef::undef::undef::undef::undef::.pointer (some ⟨V,0,none⟩)::.slice A ns.length c::.int .i64 ns.length::x17::x18::x19::x20::x21::x22::undef::undef::undef::undef::undef::undef::undef::undef::undef::undef::undef::undef::undef::undef::undef::undef::undef::undef::[]),defers:=[]}) ?step ?fin _ _ _ _ ?start
  case start=>
   exact⟨fun _=>false,fun _=>0,fun _=>0,undef,undef,undef,undef,undef,undef,undef,undef,undef,rfl,rfl,hid (Mk3.start _ _ _ _),fun h=>(by cases h),fun h=>(by cases h),fun h=>(by cases h),fun h=>(by cases h),fun h=>(by cases h),fun h=>(by cases h),fun h=>(by cases h),fun h=>(by cases h),fun h=>(by cases h),fun h=>(by cases h),fun h=>(by cases h),fun h=>(by cases h),rfl⟩
  case step=>
   rintro m t a' w' i ⟨f,r,b,x17,x18,x19,x20,x21,x22,p5,p6,p7,rfl,rfl,d,p,G,D,s0,I,K,C,s1,E,J,B,s2,rfl⟩ hi;rw[mem_ready]at hi;obtain⟨q,o,L,X⟩:=hi;have hi12:i<12:=(Array.getElem?_eq_some_iff.1 L).1;obtain rfl|rfl|rfl|rfl|rfl|rfl|rfl|rfl|rfl|rfl|rfl|rfl:i=0\/i=1\/i=2\/i=3\/i=4\/i=5\/i=6\/i=7\/i=8\/i=9\/i=10\/i=11:=by omega
   ·have a:f 0=false:=by simpa using q
    obtain rfl:=Option.some.inj (show some _=some o from L);exact⟨left12 (upd f 0 true),zao f 0 (by omega) a,zbk (.int .i64 ns.length) rfl rfl (by simp[execOp,go_sem]) ⟨upd f 0 true,r,b,.int .i64 ns.length,x18,x19,x20,x21,x22,p5,p6,p7,rfl,rfl,hid (d.out.mark 0 (by omega)),fun _=>rfl,G,D,s0,I,K,C,s1,E,J,B,s2,rfl⟩⟩
   ·have a:f 1=false:=by simpa using q
    obtain rfl:=Option.some.inj (show some _=some o from L);have d0:f 0=true:=by simpa using X ⟨0,.data⟩ (by simp) rfl
    have S:=p d0;subst S;have Q:f 9=false:=by cases hq:f 9 with|false=>rfl|true=>rw[(s0 hq).1]at a;cases a
    exact⟨left12 (upd f 1 true),zao f 1 (by omega) a,zbk (.slice (some ⟨w'.heap.size,0,none⟩) ns.length ns.length) rfl rfl (by simp[execOp,go_sem,aa]) ⟨upd f 1 true,upd r 0 w'.heap.size,b,.int .i64 ns.length,(.slice (some ⟨w'.heap.size,0,none⟩) ns.length ns.length),x19,x20,x21,x22,p5,p6,p7,rfl,rfl,hid (d.out.make 0 (by omega) Q),p,fun _=>rfl,D,fun h=>⟨rfl,(s0 h).2⟩,I,K,C,s1,E,J,B,s2,rfl⟩⟩
   ·have a:f 2=false:=by simpa using q
    obtain rfl:=Option.some.inj (show some _=some o from L);exact⟨left12 (upd f 2 true),zao f 2 (by omega) a,zbk (.int .i64 ns.length) rfl rfl (by simp[execOp,go_sem]) ⟨upd f 2 true,r,b,x17,x18,.int .i64 ns.length,x20,x21,x22,p5,p6,p7,rfl,rfl,hid (d.out.mark 2 (by omega)),p,G,D,s0,fun _=>rfl,K,C,s1,E,J,B,s2,rfl⟩⟩
   ·have a:f 3=false:=by simpa using q
    obtain rfl:=Option.some.inj (show some _=some o from L);have d0:f 2=true:=by simpa using X ⟨2,.data⟩ (by simp) rfl
    have S:=I d0;subst S;have Q:f 10=false:=by cases hq:f 10 with|false=>rfl|true=>rw[(s1 hq).1]at a;cases a
    exact⟨left12 (upd f 3 true),zao f 3 (by omega) a,zbk (.slice (some ⟨w'.heap.size,0,none⟩) ns.length ns.length) rfl rfl (by simp[execOp,go_sem,aa]) ⟨upd f 3 true,upd r 1 w'.heap.size,b,x17,x18,.int .i64 ns.length,(.slice (some ⟨w'.heap.size,0,none⟩) ns.length ns.length),x21,x22,p5,p6,p7,rfl,rfl,hid (d.out.make 1 (by omega) Q),p,G,D,s0,I,fun _=>rfl,C,fun h=>⟨rfl,(s1 h).2⟩,E,J,B,s2,rfl⟩⟩
   ·have a:f 4=false:=by simpa using q
    obtain rfl:=Option.some.inj (show some _=some o from L);exact⟨left12 (upd f 4 true),zao f 4 (by omega) a,zbk (.int .i64 ns.length) rfl rfl (by simp[execOp,go_sem]) ⟨upd f 4 true,r,b,x17,x18,x19,x20,.int .i64 ns.length,x22,p5,p6,p7,rfl,rfl,hid (d.out.mark 4 (by omega)),p,G,D,s0,I,K,C,s1,fun _=>rfl,J,B,s2,rfl⟩⟩
   ·have a:f 5=false:=by simpa using q
    obtain rfl:=Option.some.inj (show some _=some o from L);have d0:f 4=true:=by simpa using X ⟨4,.data⟩ (by simp) rfl
    have S:=E d0;subst S;have Q:f 11=false:=by cases hq:f 11 with|false=>rfl|true=>rw[(s2 hq).1]at a;cases a
    exact⟨left12 (upd f 5 true),zao f 5 (by omega) a,zbk (.slice (some ⟨w'.heap.size,0,none⟩) ns.length ns.length) rfl rfl (by simp[execOp,go_sem,aa]) ⟨upd f 5 true,upd r 2 w'.heap.size,b,x17,x18,x19,x20,.int .i64 ns.length,(.slice (some ⟨w'.heap.size,0,none⟩) ns.length ns.length),p5,p6,p7,rfl,rfl,hid (d.out.make 2 (by omega) Q),p,G,D,s0,I,K,C,s1,E,fun _=>rfl,B,fun h=>⟨rfl,(s2 h).2⟩,rfl⟩⟩
   ·have a:f 6=false:=by simpa using q
    obtain rfl:=Option.some.inj (show some _=some o from L);have Q:f 9=false:=by cases hq:f 9 with|false=>rfl|true=>rw[(s0 hq).2]at a;cases a
    exact⟨left12 (upd f 6 true),zao f 6 (by omega) a,zbk (.pointer (some ⟨w'.heap.size,0,none⟩)) rfl rfl (by simp[execOp,go_sem]) ⟨upd f 6 true,r,upd b 0 w'.heap.size,x17,x18,x19,x20,x21,x22,(.pointer (some ⟨w'.heap.size,0,none⟩)),p6,p7,rfl,rfl,hid (d.out.boxed 0 (by omega) Q),p,G,fun _=>rfl,fun h=>⟨(s0 h).1,rfl⟩,I,K,C,s1,E,J,B,s2,rfl⟩⟩
   ·have a:f 7=false:=by simpa using q
    obtain rfl:=Option.some.inj (show some _=some o from L);have Q:f 10=false:=by cases hq:f 10 with|false=>rfl|true=>rw[(s1 hq).2]at a;cases a
    exact⟨left12 (upd f 7 true),zao f 7 (by omega) a,zbk (.pointer (some ⟨w'.heap.size,0,none⟩)) rfl rfl (by simp[execOp,go_sem]) ⟨upd f 7 true,r,upd b 1 w'.heap.size,x17,x18,x19,x20,x21,x22,p5,(.pointer (some ⟨w'.heap.size,0,none⟩)),p7,rfl,rfl,hid (d.out.boxed 1 (by omega) Q),p,G,D,s0,I,K,fun _=>rfl,fun h=>⟨(s1 h).1,rfl⟩,E,J,B,s2,rfl⟩⟩
   ·have a:f 8=false:=by simpa using q
    obtain rfl:=Option.some.inj (show some _=some o from L);have Q:f 11=false:=by cases hq:f 11 with|false=>rfl|true=>rw[(s2 hq).2]at a;cases a
    exact⟨left12 (upd f 8 true),zao f 8 (by omega) a,zbk (.pointer (some ⟨w'.heap.size,0,none⟩)) rfl rfl (by simp[execOp,go_sem]) ⟨upd f 8 true,r,upd b 2 w'.heap.size,x17,x18,x19,x20,x21,x22,p5,p6,(.pointer (some ⟨w'.heap.size,0,none⟩)),rfl,rfl,hid (d.out.boxed 2 (by omega) Q),p,G,D,s0,I,K,C,s1,E,J,fun _=>rfl,fun h=>⟨(s2 h).1,rfl⟩,rfl⟩⟩
   ·have a:f 9=false:=by simpa using q
    obtain rfl:=Option.some.inj (show some _=some o from L);have F:f 6=true:=by simpa using X ⟨6,.data⟩ (by simp) rfl
    have d2:f 1=true:=by simpa using X ⟨1,.data⟩ (by simp) rfl
    have S:=G d2;subst S;have hp:=D F;subst hp;have u:=(d.out.box 0 (by omega) F).2;have hc:w'.cell? ⟨b 0,0,none⟩=some (.slice none 0 0):=by rw[u.cell 0];simp[a]
    have hz:=u.frozen 0;exact⟨left12 (upd f 9 true),zao f 9 (by omega) a,zjk (w':=w'.setCell ⟨b 0,0,none⟩ (.slice (some ⟨r 0,0,none⟩) ns.length ns.length)) rfl rfl (by simp[execOp,go_sem,hc,hz]) ⟨upd f 9 true,r,b,x17,(.slice (some ⟨r 0,0,none⟩) ns.length ns.length),x19,x20,x21,x22,(.pointer (some ⟨b 0,0,none⟩)),p6,p7,rfl,rfl,hid (d.out.fill 0 (by omega) F),p,G,D,fun _=>⟨d2,F⟩,I,K,C,s1,E,J,B,s2,rfl⟩⟩
   ·have a:f 10=false:=by simpa using q
    obtain rfl:=Option.some.inj (show some _=some o from L);have F:f 7=true:=by simpa using X ⟨7,.data⟩ (by simp) rfl
    have d2:f 3=true:=by simpa using X ⟨3,.data⟩ (by simp) rfl
    have S:=K d2;subst S;have hp:=C F;subst hp;have u:=(d.out.box 1 (by omega) F).2;have hc:w'.cell? ⟨b 1,0,none⟩=some (.slice none 0 0):=by rw[u.cell 0];simp[a]
    have hz:=u.frozen 0;exact⟨left12 (upd f 10 true),zao f 10 (by omega) a,zjk (w':=w'.setCell ⟨b 1,0,none⟩ (.slice (some ⟨r 1,0,none⟩) ns.length ns.length)) rfl rfl (by simp[execOp,go_sem,hc,hz]) ⟨upd f 10 true,r,b,x17,x18,x19,(.slice (some ⟨r 1,0,none⟩) ns.length ns.length),x21,x22,p5,(.pointer (some ⟨b 1,0,none⟩)),p7,rfl,rfl,hid (d.out.fill 1 (by omega) F),p,G,D,s0,I,K,C,fun _=>⟨d2,F⟩,E,J,B,s2,rfl⟩⟩
   ·have a:f 11=false:=by simpa using q
    obtain rfl:=Option.some.inj (show some _=some o from L);have F:f 8=true:=by simpa using X ⟨8,.data⟩ (by simp) rfl
    have d2:f 5=true:=by simpa using X ⟨5,.data⟩ (by simp) rfl
    have S:=J d2;subst S;have hp:=B F;subst hp;have u:=(d.out.box 2 (by omega) F).2;have hc:w'.cell? ⟨b 2,0,none⟩=some (.slice none 0 0):=by rw[u.cell 0];simp[a]
    have hz:=u.frozen 0;exact⟨left12 (upd f 11 true),zao f 11 (by omega) a,zjk (w':=w'.setCell ⟨b 2,0,none⟩ (.slice (some ⟨r 2,0,none⟩) ns.length ns.length)) rfl rfl (by simp[execOp,go_sem,hc,hz]) ⟨upd f 11 true,r,b,x17,x18,x19,x20,x21,(.slice (some ⟨r 2,0,none⟩) ns.length ns.length),p5,p6,(.pointer (some ⟨b 2,0,none⟩)),rfl,rfl,hid (d.out.fill 2 (by omega) F),p,G,D,s0,I,K,C,s1,E,J,B,fun _=>⟨d2,F⟩,rfl⟩⟩
  case fin=>
   rintro m t a' w' ⟨f,r,b,x17,x18,x19,x20,x21,x22,p5,p6,p7,rfl,rfl,d,p,G,D,s0,I,K,C,s1,E,J,B,s2,rfl⟩ hr;have M:=fun i=>mt mem_ready.2 (List.eq_nil_iff_forall_not_mem.1 hr i)
   have t0:f 0=true:=by
    cases e:f 0 with
    |true=>rfl
    |false=>exact(M 0 ⟨by simpa using e,_,rfl,by simp[Region.binds, *]⟩).elim
   have t2:f 2=true:=by
    cases e:f 2 with
    |true=>rfl
    |false=>exact(M 2 ⟨by simpa using e,_,rfl,by simp[Region.binds, *]⟩).elim
   have t4:f 4=true:=by
    cases e:f 4 with
    |true=>rfl
    |false=>exact(M 4 ⟨by simpa using e,_,rfl,by simp[Region.binds, *]⟩).elim
   have t6:f 6=true:=by
    cases e:f 6 with
    |true=>rfl
    |false=>exact(M 6 ⟨by simpa using e,_,rfl,by simp[Region.binds, *]⟩).elim
   have t7:f 7=true:=by
    cases e:f 7 with
    |true=>rfl
    |false=>exact(M 7 ⟨by simpa using e,_,rfl,by simp[Region.binds, *]⟩).elim
   have t8:f 8=true:=by
    cases e:f 8 with
    |true=>rfl
    |false=>exact(M 8 ⟨by simpa using e,_,rfl,by simp[Region.binds, *]⟩).elim
   have t1:f 1=true:=by
    cases e:f 1 with
    |true=>rfl
    |false=>exact(M 1 ⟨by simpa using e,_,rfl,by simp[Region.binds, *]⟩).elim
   have t3:f 3=true:=by
    cases e:f 3 with
    |true=>rfl
    |false=>exact(M 3 ⟨by simpa using e,_,rfl,by simp[Region.binds, *]⟩).elim
   have t5:f 5=true:=by
    cases e:f 5 with
    |true=>rfl
    |false=>exact(M 5 ⟨by simpa using e,_,rfl,by simp[Region.binds, *]⟩).elim
   have t9:f 9=true:=by
    cases e:f 9 with
    |true=>rfl
    |false=>exact(M 9 ⟨by simpa using e,_,rfl,by simp[Region.binds, *]⟩).elim
   have au:f 10=true:=by
    cases e:f 10 with
    |true=>rfl
    |false=>exact(M 10 ⟨by simpa using e,_,rfl,by simp[Region.binds, *]⟩).elim
   have al:f 11=true:=by
    cases e:f 11 with
    |true=>rfl
    |false=>exact(M 11 ⟨by simpa using e,_,rfl,by simp[Region.binds, *]⟩).elim
   have hf:f=fun k=>f k:=rfl
   have l:∀k,k<12->f k=true:=by
    intro k hk;obtain rfl|rfl|rfl|rfl|rfl|rfl|rfl|rfl|rfl|rfl|rfl|rfl:k=0\/k=1\/k=2\/k=3\/k=4\/k=5\/k=6\/k=7\/k=8\/k=9\/k=10\/k=11:=by omega
    all_goals assumption
   have hM:Mk3 ns.length w1 w' (fun _=>true) r b:=⟨d.out.below,fun j hj _=>d.out.row j hj (l _ (by omega)),fun j hj _=>by
    have:=d.out.box j hj (l _ (by omega));rw[l (9+j) (by omega)]at this;exact this,fun j k hj hk ad _ _=>d.out.rr j k hj hk ad (l _ (by omega)) (l _ (by omega)),fun j k hj hk ad _ _=>d.out.bb j k hj hk ad (l _ (by omega)) (l _ (by omega))⟩
   have aw:=D t6;have ao:=C t7;have ar:=B t8;subst aw;subst ao;subst ar;have am:=hid hM;clear hM l hf M hr d p G D s0 I K C s1 E J B s2 t0 t1 t2 t3 t4 t5 t6 t7 t8 t9 au al;go_wp2;go_meet;exact⟨r,b,rfl,rfl,rfl,am⟩
 case rest=>
  obtain⟨r,b,rfl,rfl,rfl,d⟩:=hcut;obtain⟨p,U⟩:∃p:Nat->List Int,(fun k=>List.replicate k (-1:Int)++List.replicate (ns.length-k) 0)=p:=⟨_,rfl⟩
  have aB:Hid (∀k,k<ns.length->(p k).set k (-1)=p (k+1)/\(p k).length=ns.length/\(p k).getD k (-1)=0):=hid (fun k hk=>by
   rw[<-U];refine⟨?_,by simp;omega,?_⟩
   ·simp only;rw[List.set_append_right _ _ (by simp),List.length_replicate,Nat.sub_self,show ns.length-k=(ns.length-(k+1))+1 from by omega,List.replicate_succ,List.set_cons_zero,List.replicate_succ',List.append_assoc];rfl
   ·simp only;rw[List.getD_eq_getElem?_getD,List.getElem?_append_right (by simp),List.length_replicate,Nat.sub_self,List.getElem?_replicate,if_pos (by omega)];rfl)
  have aq:Hid (icells (List.replicate ns.length 0)=jcells (p 0)):=hid (by rw[<-U];simp[icells,jcells]);have ap:Hid (p ns.length=List.replicate ns.length (-1)):=hid (by rw[<-U];simp);clear U;obtain⟨s,R⟩:=ex (r 2)
  obtain⟨Z,T⟩:=ex (b 2)
  have N:Hid (Blk wc Z 33 #[.slice (some ⟨s,0,none⟩) ns.length ns.length]/\Blk wc s 3 (jcells (p 0))):=hid (by
   have h1:=(d.out.box 2 (by omega) rfl).2;have h2:=(d.out.row 2 (by omega) rfl).2;rw[aq.out]at h2;subst R;subst T;exact⟨by simpa using h1,h2⟩)
  have aA:=hid (And.intro R T);(try rw[T]);clear R T;have c0:wc.cell? ⟨Z,0,none⟩=some (.slice (some ⟨s,0,none⟩) ns.length ns.length):=N.out.1.cell 0;have aj:Z≠s:=N.out.1.ne_ N.out.2 (by decide);go_upto_region 4 with fail;clear c0;go_loopw [25] (fun s25 wr=>∃k:Nat,k<=ns.length/\s25=.int .i64 k/\Hid (KB s wc wr/\Blk wr s 3 (jcells (p k)))) (fun s25 _=>ns.length-(intOf s25).toNat)
  case atStart=>exact⟨0,by omega,rfl,hid ⟨KB.refl _ _,N.out.2⟩⟩
  case round=>
   obtain⟨k,hk,rfl,HW⟩:=hrel;by_cases hlk:k<ns.length
   ·have ai:(k:Int)<(ns.length:Int):=by omega
    have c0:wr.cell? ⟨Z,0,none⟩=some (.slice (some ⟨s,0,none⟩) ns.length ns.length):=(HW.out.1.blk N.out.1 aj).cell 0;obtain⟨e1,e2,e3⟩:=aB.out k hlk;have z0:wr.cell? ⟨s,k,none⟩=some (.int .i64 0):=by rw[HW.out.2.cell,zb2 (by omega),e3]
    have zf:∀i,wr.frozen? ⟨s,i,none⟩=false:=HW.out.2.frozen;have ay:Hid (KB s wc (wr.setCell ⟨s,k,none⟩ (.int .i64 (-1)))/\Blk (wr.setCell ⟨s,k,none⟩ (.int .i64 (-1))) s 3 (jcells (p (k+1)))):=hid ⟨HW.out.1.set _ _,by
     rw[<-e1,<-zf1];exact HW.out.2.set_ k _⟩
    clear e1 e2 e3 HW;go_wp2;go_roundw
    case rel=>exact⟨k+1,by omega,by go_num,ay⟩
    case measure=>simp[intOf];omega
   ·have ai:¬((k:Int)<(ns.length:Int)):=by omega
    have ag:Hid (KB s wc wr/\Blk wr s 3 (jcells (List.replicate ns.length (-1)))):=hid (by
     have:=HW.out;rw[show k=ns.length from by omega,ap.out]at this;exact this)
    clear HW;go_upto_region 13 with fail;have O:=aC.out;have hw1s:w1.heap.size=V+1:=by rw[<-ae.out,<-O];simp
    have l1:Below w.heap.size w w1:=by rw[<-ae.out];exact(Below.refl _ _).alloc (Nat.le_refl _) _
    have ak:Blk w1 V 24 #[.slice A ns.length c,.int .i64 root]:=by rw[<-ae.out,<-O];exact Blk.new _ _ _
    obtain⟨R,T⟩:=aA.out;obtain⟨x0,y0⟩:=d.out.row 0 (by omega) rfl;obtain⟨x1,y1⟩:=d.out.row 1 (by omega) rfl;obtain⟨x2,y2⟩:=d.out.row 2 (by omega) rfl;obtain⟨_,z0⟩:=d.out.box 0 (by omega) rfl;obtain⟨_,z1⟩:=d.out.box 1 (by omega) rfl;have an:=d.out.rr 0 1 (by omega) (by omega) (by omega) rfl rfl;have af:=d.out.rr 0 2 (by omega) (by omega) (by omega) rfl rfl;have ab:=d.out.rr 1 2 (by omega) (by omega) (by omega) rfl rfl;rw[R]at x2 y2 af ab;have ah:=ak.below d.out.below (by omega);have x:=ag.out.1;have Y:Below w.heap.size w wr:=(l1.trans (d.out.below.mono (by omega))).trans (x.below (by omega) (by have:=l1.size;have:=d.out.below.size;omega));have az:=Y.size;obtain⟨z,hz⟩:=ex wr.heap.size
    rw[hz];obtain⟨W,hW⟩:=ex ((((((wr.alloc (.cells #[.slice none 0 0] 33)).alloc (.cells #[.slice none 0 0] 33)).alloc (.cells (bcells (List.replicate ns.length false)) 4)).alloc (.cells #[.slice (some ⟨z+1+1,0,none⟩) ns.length ns.length] 62)).alloc (.cells #[.int .i64 0] 3)).alloc (.cells #[(compL z V (b 0) (b 1) Z (r 0) (r 1) s).fn] 88))
    obtain⟨hT,lW,hWs⟩:=zl2 w.heap.size z V (b 0) (b 1) Z (r 0) (r 1) s A c root vs ns wr W hz hW
     (x.blk (by simpa using z0) (z0.ne_ y2 (by decide))) (x.blk (by simpa using z1) (z1.ne_ y2 (by decide))) (x.blk N.out.1 aj) (x.blk y0 af) (x.blk y1 ab) ag.out.2
     (x.blk ah (by omega)) an af ab (by omega) (by omega) (by omega) (by omega) (H.out.below Y)
    unfold compL TL.fn at hW;simp only at hW;rw[hW];have HT:=hid hT;have av:=hid (Y.trans (lW.mono az));have v0:W.cell? ⟨z+1+1+1+1+1,0,none⟩=some (compL z V (b 0) (b 1) Z (r 0) (r 1) s).fn:=hT.xV.cell 0;unfold compL TL.fn at v0;simp only at v0;have g1:W.cell? ⟨V,1,none⟩=some (.int .i64 root):=hT.xG.cell 1;have hC:=zl1 (y:=compL z V (b 0) (b 1) Z (r 0) (r 1) s) hr hl hks ns.length (tzero ns.length) root (fun _=>False) W _ _ hT (zhd _) hroot (zcp _ _) (fun g h=>h.elim) (Nat.le_trans List.countP_le_length (by simp));unfold TL.args compL at hC;simp only at hC;have HC:=hid hC;have HX:Hid (w.heap.size<=s/\w.heap.size<=z+1+1+1+1+1+1):=hid ⟨by omega,by omega⟩;clear hW hT hC l1 ak y0 y1 y2 z0 z1 ah x Y lW;go_wp2_with fail;refine HC.out.mono ?_;rintro e w9 ⟨rfl,sv,zv,h9,f9⟩;obtain⟨Az,cz,ax,_⟩:=h9.siz.form;subst ax;have C:w9.cell? ⟨Z,0,none⟩=some (.slice (some ⟨s,0,none⟩) ns.length ns.length):=h9.xC.cell 0;have B:w9.cell? ⟨z,0,none⟩=some (.slice Az (tvisit (Gr.succ ns) ns.length (tzero ns.length) root).sizes.length cz):=h9.bZ.cell 0;have P:Hid (Below w.heap.size w w9/\Blk w9 s 3 (jcells (tcomp (Gr.succ ns) ns.length root).inn)/\OwnRow intL w9 w.heap.size 3 (.slice Az (tcomp (Gr.succ ns) ns.length root).sizes.length cz) (tcomp (Gr.succ ns) ns.length root).sizes):=
     hid ⟨av.out.trans (HT.out.tfBelow f9),h9.rC,h9.siz.lower HX.out.2⟩
    clear v0 g1 h9 f9;go_upto_region 14 with fail;go_quiet (fail);go_wp2_with fail;refine bodyPost_ret (v:=.tuple #[.slice (some ⟨s,0,none⟩) ns.length ns.length,.slice Az (tvisit (Gr.succ ns) ns.length (tzero ns.length) root).sizes.length cz]) (by simp[results,results65,go_sem]) rfl ?_;exact⟨s,Az,cz,rfl,HX.out.1,below_drewN P.out.1 _,P.out.2.1.drewN _,P.out.2.2.drewN _⟩
theorem infoSl:(prog.info? 33).map (fun i=>(i.zero,i.size,i.bytes))=some (some (.slice none 0 0),1,24):=by kernel_rfl
theorem zjl (n:Nat) (hn:n<=1073741824) (W:World):(Instr.makeSlice 87 (.int .i64 (n:Int)) (.int .i64 (n:Int))).run prog W=.ok (.slice (some ⟨W.heap.size,0,none⟩) n n) (W.alloc (.cells (List.replicate n (Value.slice none 0 0)).toArray 33)):=by
 obtain⟨e,d,b,c,a⟩:=info_parts infoSl;have:=zbh (P:=prog) 87 33 e _ underlying87 d b .i64 .i64 n n (Nat.le_refl _) (by rw[a];omega) (by omega) W;rw[c]at this;simp only[Value.cells,zbi]at this;exact this
structure Mems (w:World) (D rM:Nat) (mv:List Value) (ml:List (List Nat)):Prop where
 blk:Blk w rM 33 mv.toArray
 lo:rM<D
 hd:D<=w.heap.size
 len:mv.length=ml.length
 own:∀c (h1:c<mv.length) (h2:c<ml.length),OwnRow intL w D 3 mv[c] ml[c]
 ap:∀c c' (h1:c<mv.length) (h2:c'<mv.length),c≠c'->∀k,mv[c].ownBlock=some k->mv[c'].ownBlock≠some k
section
variable {w w' w2:World} {D rM:Nat} {mv:List Value} {ml:List (List Nat)}
theorem Mems.start {m:Nat} (hb:Blk w rM 33 (List.replicate m (Value.slice none 0 0)).toArray) (lo:rM<D) (hd:D<=w.heap.size):Mems w D rM (List.replicate m (.slice none 0 0)) (List.replicate m []):=
 ⟨hb,lo,hd,by simp,fun c b a=>by simp only[List.getElem_replicate];exact OwnRow.nil,fun c c' b a _ k e=>by simp only[List.getElem_replicate]at e;cases e⟩
theorem Mems.later (h:Mems w D rM mv ml) (hb:Below w.heap.size w w'):Mems w' D rM mv ml:=
 ⟨h.blk.below hb h.blk.lt,h.lo,Nat.le_trans h.hd hb.size,h.len,fun c b a=>(h.own c b a).later hb,h.ap⟩
theorem Mems.alloc (h:Mems w D rM mv ml) (o:Obj):Mems (w.alloc o) D rM mv ml:=h.later ((Below.refl _ _).alloc (Nat.le_refl _) o)
theorem Mems.kb {g:Nat} (h:Mems w D rM mv ml) (hk:KB g w w') (hg:g<D) (hne:g≠rM):Mems w' D rM mv ml:=by
 refine⟨hk.blk h.blk (Ne.symm hne),h.lo,Nat.le_trans h.hd hk.size,h.len,fun c n m=>?_,h.ap⟩;have i:=h.own c n m;have j:=i.lt;refine⟨i.1,i.2.imp id ?_⟩;rintro⟨a,b,f,k,d,l,r⟩;have e:mv[c].ownBlock=some a:=by rw[k];rfl
 have:=j a e;exact⟨a,b,f,k,d,(hk.block a (by omega) (by omega)).trans l,r⟩
theorem Mems.grown (h:Mems w D rM mv ml) {c:Nat} (hc:c<mv.length) {v2:Value} {l:List Nat} (ho:OwnRow intL w2 D 3 v2 l) (hg:w.grownBy w2 (mv[c]).ownBlock) (hat:v2.ownBlock=(mv[c]).ownBlock\/v2.ownBlock=some w.heap.size):
 Mems (w2.setCell ⟨rM,c,none⟩ v2) D rM (mv.set c v2) (ml.set c l):=by
 have j:c<ml.length:=by rw[<-h.len];exact hc
 have i:=h.lo;have hsz:=hg.size;have f:Blk w2 rM 33 mv.toArray:=h.blk.grown hg (fun e=>by have:=((h.own c hc j).lt rM e.symm).1;omega);have hap:∀c' (h1:c'<mv.length),c'≠c->∀k,v2.ownBlock=some k->mv[c'].ownBlock≠some k:=by
  intro c' h1 a k e d;rcases hat with h3|h3
  ·exact h.ap c' c h1 hc a k d (h3.symm.trans e)
  ·have:=((h.own c' h1 (by rw[<-h.len];exact h1)).lt k d).2;rw[h3]at e;injection e with e;omega
 refine⟨?_,i,?_,by simp[h.len],?_,?_⟩
 ·have:=f.set_ c v2;simpa using this
 ·have:=h.hd;simp[World.setCell];omega
 ·intro c' h1 b;simp only[List.length_set]at h1 b;by_cases hcc:c'=c
  ·subst hcc;simp only[List.getElem_set_self];exact ho.setCell (p:=⟨rM,c',none⟩) (fun e=>by have:=(ho.lt _ e).1;simp only at this;omega) _
  ·simp only[List.getElem_set_ne (Ne.symm hcc)];have h3:=h.own c' h1 b;have g:=h3.off hg (fun k e d=>h.ap c' c h1 hc hcc k e d.symm);exact g.setCell (p:=⟨rM,c,none⟩) (fun e=>by have:=(h3.lt _ e).1;simp only at this;omega) _
 ·intro n m h1 b a k e;simp only[List.length_set]at h1 b;by_cases h3:n=c
  ·grind
  ·simp only[List.getElem_set_ne (Ne.symm h3)]at e;by_cases g:m=c
   ·grind
   ·simp only[List.getElem_set_ne (Ne.symm g)];exact h.ap n m h1 b a k e
theorem Mems.grownKB {w4:World} (h:Mems w D rM mv ml) (hk:KB rM w4 w) (hD:w4.heap.size=D) {c:Nat} (hc:c<mv.length) (v2:Value) (hg:w.grownBy w2 (mv[c]).ownBlock):
 KB rM w4 (w2.setCell ⟨rM,c,none⟩ v2):=by
 have b:c<ml.length:=by rw[<-h.len];exact hc
 have a:Below D w w2:=(h.own c hc b).grown_below hg h.hd;refine KB.set ⟨a.os.trans hk.os,a.tape.trans hk.tape,a.output.trans hk.output,Nat.le_trans hk.size a.size,fun k d e=>(a.block k (by omega)).trans (hk.block k d e)⟩ _ _
theorem Mems.at_ (h:Mems w D rM mv ml) {c:Nat} (hc:c<ml.length):∃A cap,mv[c]? =some (.slice A (ml[c]).length cap)/\w.cell? ⟨rM,c,none⟩=some (.slice A (ml[c]).length cap)/\RowAt intL w w.heap.size A ml[c]:=by
 have a:c<mv.length:=by rw[h.len];exact hc
 obtain⟨A,cap,b,d⟩:=(h.own c a hc).form;refine⟨A,cap,by rw[List.getElem?_eq_getElem a,b],?_,d⟩;rw[h.blk.cell];simp[List.getElem?_eq_getElem a,b]
theorem Mems.row (h:Mems w D rM mv ml) {c:Nat} (hc:c<ml.length) {A:Option Addr} {n cap:Nat} (e:mv[c]? =some (.slice A n cap)):RowAt intL w w.heap.size A ml[c]:=by
 obtain⟨A',cap',a,_,b⟩:=h.at_ hc;rw[a]at e;injection e with e
 injection e with e _ _
 subst e;exact b
end
theorem zhw (inn:Nat->Int) (i c:Nat):members inn (i+1) c=if inn i=(c:Int)then members inn i c++[i]else members inn i c:=by
 unfold members;rw[List.range_succ,List.filter_append];by_cases h:inn i=(c:Int)<;>simp[h]
def memsL (inn:Nat->Int) (i m:Nat):List (List Nat):=(List.range m).map (fun c=>members inn i c)
theorem zcf (inn:Nat->Int) (i m:Nat):(memsL inn i m).length=m:=by simp[memsL]
theorem zl4 (inn:Nat->Int) (m:Nat):memsL inn 0 m=List.replicate m []:=by
 unfold memsL;apply List.ext_getElem
 ·simp
 ·intro i h1 h2;simp[members]
theorem zcg (inn:Nat->Int) (i m c:Nat) (h:c<(memsL inn i m).length):(memsL inn i m)[c]=members inn i c:=by simp[memsL]
theorem zl5 (inn:Nat->Int) (i m c:Nat) (h:inn i=(c:Int)):memsL inn (i+1) m=(memsL inn i m).set c (members inn i c++[i]):=by
 apply List.ext_getElem
 ·simp[memsL]
 ·intro k h1 h2;rw[zcg,zhw];by_cases hk:k=c
  ·grind
  ·rw[List.getElem_set_ne (Ne.symm hk),if_neg (by omega),zcg]
theorem zez (inn:Nat->Int) (i c:Nat):(members inn i c).length<=i:=by
 unfold members;exact Nat.le_trans (List.length_filter_le _ _) (by simp)
theorem zl6 (inn:Nat->Int) (n c:Nat):∀x∈members inn n c,x<n:=by
 intro x a;unfold members at a;exact List.mem_range.1 (List.mem_filter.1 a).1
def Sml (M:Nat) (p:List Nat×Bool):Prop:=∀k,p.1.getD k 0<=M
theorem Sml.step {M:Nat} {inn:Nat->Int} {c:Nat} {p:List Nat×Bool} (h:Sml M p) (x:Nat):Sml M (dstep inn c p x):=by
 unfold dstep;split
 ·exact h
 ·intro k;show(p.1.set c _).getD k 0<=M;by_cases hk:c=k
  ·subst hk;by_cases hl:c<p.1.length
   ·rw[za1 _ _ _ _ hl];have:=h c;have:=h (inn x).toNat;omega
   ·grind
  ·rw[Gr.getD_set_ne _ _ _ _ _ hk];exact h k
theorem Sml.fold {M:Nat} {inn:Nat->Int} {c:Nat} (L:List Nat):∀{p:List Nat×Bool},Sml M p->Sml M (L.foldl (dstep inn c) p):=by
 induction L with
 |nil=>intro p h;exact h
 |cons x L ih=>intro p h;rw[List.foldl_cons];exact ih (h.step x)
theorem Sml.foldM {M:Nat} {inn:Nat->Int} {c:Nat} (sc:Nat->List Nat) (L:List Nat):∀{p:List Nat×Bool},Sml M p->Sml M (L.foldl (fun p i=>(sc i).foldl (dstep inn c) p) p):=by
 induction L with
 |nil=>intro p h;exact h
 |cons x L ih=>intro p h;rw[List.foldl_cons];exact ih (h.fold _)
theorem zpa (inn:Nat->Int) (c:Nat) (p:List Nat×Bool) (x:Nat):(dstep inn c p x).1.length=p.1.length:=by
 unfold dstep;split<;>simp
theorem ze0 (inn:Nat->Int) (c:Nat) (L:List Nat):∀p:List Nat×Bool,(L.foldl (dstep inn c) p).1.length=p.1.length:=by
 induction L with
 |nil=>intro p;rfl
 |cons x L ih=>intro p;rw[List.foldl_cons,ih,zpa]
theorem zdu (inn:Nat->Int) (c:Nat) (sc:Nat->List Nat) (L:List Nat):∀p:List Nat×Bool,(L.foldl (fun p i=>(sc i).foldl (dstep inn c) p) p).1.length=p.1.length:=by
 induction L with
 |nil=>intro p;rfl
 |cons x L ih=>intro p;rw[List.foldl_cons,ih,ze0]
theorem zpb (sc:Nat->List Nat) (inn:Nat->Int) (n:Nat) (sizes:List Nat) (p:List Nat×Bool) (c:Nat):(dcomp sc inn n sizes p c).1.length=p.1.length:=by
 unfold dcomp;simp[zdu]
theorem zf2 (sc:Nat->List Nat) (inn:Nat->Int) (n:Nat) (sizes:List Nat) (L:List Nat):∀p:List Nat×Bool,(L.foldl (dcomp sc inn n sizes) p).1.length=p.1.length:=by
 induction L with
 |nil=>intro p;rfl
 |cons x L ih=>intro p;rw[List.foldl_cons,ih,zpb]
theorem Sml.comp {M N:Nat} {sc:Nat->List Nat} {inn:Nat->Int} {n:Nat} {sizes:List Nat} {p:List Nat×Bool} (h:Sml M p) (c:Nat) (hN:∀k,sizes.getD k 0<=N):Sml (M+N) (dcomp sc inn n sizes p c):=by
 unfold dcomp;have b:=h.foldM (inn:=inn) (c:=c) sc (members inn n c);obtain⟨q,a⟩:=ex ((members inn n c).foldl (fun p i=>(sc i).foldl (dstep inn c) p) p)
 rw[a]at b;rw[a];intro k;show(q.1.set c _).getD k 0<=_;have:=b k;by_cases hk:c=k
 ·grind
 ·grind
theorem Sml.comps {N:Nat} {sc:Nat->List Nat} {inn:Nat->Int} {n:Nat} {sizes:List Nat} {p:List Nat×Bool} (h:Sml 0 p) (hN:∀k,sizes.getD k 0<=N) (k:Nat):Sml (k*N) ((List.range k).foldl (dcomp sc inn n sizes) p):=by
 induction k with
 |zero=>simpa using h
 |succ k ih=>
  rw[List.range_succ,List.foldl_append,Nat.add_mul,Nat.one_mul];exact ih.comp k hN
structure DepF (w:World) (gb rC rB:Nat) (A Az:Option Addr) (c:Nat) (root:Int) (vs:List NV) (ns:List Gr.Nd) (inn:List Int) (sizes:List Nat):Prop where
 bg:Blk w gb 24 #[.slice A ns.length c,.int .i64 root]
 lg:gb<rB
 bc:Blk w rC 3 (jcells inn)
 lc:rC<rB
 rz:RowAt intL w rB Az sizes
 at_:GAt w rB A vs ns
theorem DepF.below {w w':World} {gb rC rB:Nat} {A Az:Option Addr} {c:Nat} {root:Int} {vs:List NV} {ns:List Gr.Nd} {inn:List Int} {sizes:List Nat} (h:DepF w gb rC rB A Az c root vs ns inn sizes) (hb:Below rB w w'):DepF w' gb rC rB A Az c root vs ns inn sizes:=
 ⟨h.bg.below hb h.lg,h.lg,h.bc.below hb h.lc,h.lc,h.rz.below hb,h.at_.below hb⟩
theorem zvl (t:Gr.TS) (v:Nat):t.cn v=t.inn.getD v (-1):=rfl
theorem zhx (A:Option Addr) (c root:Nat) (vs:List NV) (ns:List Gr.Nd) (hr:Refs ns) (hl:ns.length<=1073741823) (hks:∀n∈ns,n.keys.length<=1073741823/\n.items.length<=1073741823) (hroot:root<ns.length)
 (hall:∀v,v<ns.length->Gr.Reach (Gr.succ ns) root v) (w:World) (h:GAt w w.heap.size A vs ns):
 Calls prog 39 #[.agg #[.slice A ns.length c,.int .i64 root]] w fun e w'=>e=.returned (.tuple #[.int .i64 (depth ns root).1,.bool (depth ns root).2])/\Below w.heap.size w w':=by
 obtain⟨hC,aE,ai⟩:=zkc hr.succ root hroot hall;have HC:=hid hC;have H:=hid h;have aT:=hid (fun W hW=>zfn A c root vs ns hr hl hks hroot W (h.below hW|>.more hW.size));obtain⟨t,ht⟩:=ex (tcomp (Gr.succ ns) ns.length root)
 rw[ht]at aE ai HC;have HT:=hid ht;obtain⟨m,hm⟩:=ex t.sizes.length
 have HM:=hid hm;rw[hm]at ai;have hml:m<=1073741823:=by omega
 have bt:=fun W=>zbz m (by omega) W
 have bQ:=fun W=>zjl m (by omega) W
 have hrI:(root:Int)<(ns.length:Int):=by omega
 have aH:=hid aE;have HCZ:=hid ai;clear h hC ht hm aE ai;go_enter func39,ntmps39;go_upto_region 1 with fail;obtain⟨w1,aj⟩:=ex (w.alloc (.cells #[.slice A ns.length c,.int .i64 root] 24))
 (try rw[aj]);have l1:Below w.heap.size w w1:=by rw[<-aj];exact(Below.refl _ _).alloc (Nat.le_refl _) _
 have b1:Blk w1 w.heap.size 24 #[.slice A ns.length c,.int .i64 root]:=by rw[<-aj];exact Blk.new _ _ _
 obtain⟨gb,ao⟩:=ex w.heap.size
 have aU:=hid ao;have L1:=hid l1;(try rw[ao]);rw[ao]at b1;have ax:=hid b1;obtain⟨g0,g1⟩:=cells2 b1;have bs:=hid (aT.out w1 l1);clear aj ao l1 b1;go_wp2_with fail;refine bs.out.mono ?_;rintro e w2 ⟨rC,Az,cz,rfl,h1,h2,h3,h4⟩;rw[HT.out]at h3 h4 ⊢;rw[HM.out]at h4 ⊢;obtain⟨Az',cz',bd,a2⟩:=h4.form;rw[HM.out]at bd;injection bd with e1 _ e2
 subst e1;subst e2;obtain⟨f,T⟩:=ex w2.heap.size
 have aF:gb<f:=by have:=h2.size;have:=ax.out.lt;omega
 have bG:Hid (DepF w2 gb rC f A Az c root vs ns t.inn t.sizes):=hid ⟨ax.out.below h2 ax.out.lt,aF,h3,by have:=h3.lt;omega,by rw[<-T];exact a2,(H.out.below (L1.out.trans (h2.mono (by have:=L1.out.size;omega)))).more (by have:=aU.out;omega)⟩;have bz:Hid (Below w.heap.size w w2):=hid (L1.out.trans (h2.mono L1.out.size));clear h1 h2 h3 h4 g0 g1 a2;go_upto_region 5 with fail;obtain⟨w4,U⟩:=ex ((w2.alloc (.cells (icells (List.replicate m 0)) 3)).alloc (.cells (Array.replicate m (Value.slice none 0 0)) 33))
 have l4:Below f w2 w4:=by rw[<-U,<-T];exact((Below.refl _ _).alloc (Nat.le_refl _) _).alloc (by simp) _
 have an:w4.heap.size=f+1+1:=by rw[<-U];simp[T]
 have b4:Blk w4 f 3 (icells (List.replicate m 0)):=by rw[<-U,<-T];exact(Blk.new _ _ _).alloc _
 have m4:Blk w4 (f+1) 33 (Array.replicate m (Value.slice none 0 0)):=by
  rw[<-U,<-T];have:=Blk.new (w2.alloc (.cells (icells (List.replicate m 0)) 3)) 33 (Array.replicate m (Value.slice none 0 0));rw[World.size_alloc]at this;exact this
 obtain⟨E,aQ⟩:=ex (f+1)
 rw[aQ]at m4 an;obtain⟨D,hD⟩:=ex (E+1)
 rw[hD]at an;have g:Hid (gb<f/\f<E/\E<D/\w4.heap.size=D/\w.heap.size=gb):=hid ⟨aF,by omega,by omega,an,aU.out⟩;have a3:=hid (bG.out.below l4);have bF:Hid (Below w.heap.size w w4):=hid (bz.out.trans (l4.mono (by rw[aU.out];omega)));have bP:=hid b4;have bK:Hid (Mems w4 D E (List.replicate m (.slice none 0 0)) (List.replicate m [])):=hid (Mems.start (by simpa using m4) (by omega) (by omega));rw[aQ,U];have bh:=fun v (hv:v<ns.length)=>HC.out.rng v hv
 have aR:=hid bh;clear U T l4 an b4 m4 aQ hD aF bh bt bQ;go_upto_region 6 with fail;go_loopw [31] (fun s31 wr=>∃i:Nat,i<=ns.length/\s31=.int .i64 i/\Hid (KB E w4 wr/\∃mv,Mems wr D E mv (memsL t.cn i m))) (fun s31 _=>ns.length-(intOf s31).toNat)
 case atStart=>exact⟨0,by omega,rfl,hid ⟨KB.refl _ _,_,by rw[zl4];exact bK.out⟩⟩
 case round=>
  obtain⟨i,hi,rfl,I⟩:=hrel;by_cases hlt:i<ns.length
  ·have O:(i:Int)<(ns.length:Int):=by omega
   obtain⟨Z,mv,C⟩:=I.out;obtain⟨bD,bq⟩:=aR.out i hlt;obtain⟨z,ak⟩:∃z:Nat,t.cn i=(z:Int):=⟨(t.cn i).toNat,by omega⟩
   rw[ak,HM.out]at bq;have au:z<m:=by omega
   have hccI:(z:Int)<(m:Int):=by omega
   have l:z<mv.length:=by rw[C.len,zcf];exact au
   have y0:wr.cell? ⟨rC,i,none⟩=some (.int .i64 (z:Int)):=by
    have:=((a3.out.below (Z.below (by have:=g.out;omega) (by have:=g.out;omega))).bc).cell i;rw[this,zb2 (by rw[aH.out];exact hlt),<-zvl,ak]
   have az:z<(memsL t.cn i m).length:=by rw[zcf];exact au
   obtain⟨Ac,af,bC,z0,br⟩:=C.at_ az;have ag:=C.own z l az;have o:mv[z]=.slice Ac (memsL t.cn i m)[z].length af:=by
    have h1:=C.blk.cell z;rw[z0]at h1;simpa[List.getElem?_eq_getElem l]using h1.symm
   rw[zcg]at z0 ag o;clear br bC az;have av:=zez t.cn i z;obtain⟨L,hL⟩:=ex (members t.cn i z)
   rw[hL]at z0 ag av o;rw[o]at ag;have F:Hid (memsL t.cn (i+1) m=(memsL t.cn i m).set z (L++[i])):=hid (by rw[zl5 _ _ _ _ ak,hL]);have zf:∀j,wr.frozen? ⟨E,j,none⟩=false:=C.blk.frozen;have bI:=hid ag;have bx:Hid (∃l:z<mv.length,KB E w4 wr/\Mems wr D E mv (memsL t.cn i m)/\mv[z]=.slice Ac L.length af):=hid ⟨l,Z,C,o⟩;have aL:Hid (D<=wr.heap.size/\L.length+1<=1073741823):=hid ⟨C.hd,by omega⟩;clear Z C bD bq ak l ag o av hL;go_upto_region 8 with fail;clear y0;go_wp2_with (at_builtin;go_must (refine zab _ rfl (.tmp 41) (.tmp 43) 33 3 8 rfl intT D (.slice Ac L.length af) L rfl (bI.out.alloc _) _ _ 1 [i] rfl (RowAt.lit1 _ _ rfl _ ?_) ?_ ?_ ?_))
   any_goals (first|rfl| (have:=aL.out;omega)| (have:=aL.out;simp;omega)| (rw[World.size_alloc];have:=aL.out;omega))
   intro v' w3 ab hg aS;obtain⟨l,Z,C,o⟩:=bx.out;have ac:=C.alloc (.cells #[.int .i64 i] 3);rw[<-o]at hg aS;have aX:=ac.grown l ab hg (by rw[World.size_alloc];exact aS);have aW:=ac.grownKB (Z.alloc _) g.out.2.2.2.1 l v' hg;have aP:Blk w3 E 33 mv.toArray:=ac.blk.grown hg (fun e=>by have:=((ac.own z l (by rw[zcf];omega)).lt E e.symm).1;have:=g.out;omega);have bv:w3.cell? ⟨E,z,none⟩=some mv[z]:=by rw[aP.cell];simp[List.getElem?_eq_getElem l]
   rw[o]at bv;have pf3:∀j,w3.frozen? ⟨E,j,none⟩=false:=aP.frozen;obtain⟨g3,aq,bn,_⟩:=ab.shape (by simp);obtain⟨n3,be⟩:=ex ((L++[i]).length)
   rw[be]at bn;subst bn;have s:Hid (KB E w4 (w3.setCell ⟨E,z,none⟩ (.slice (some ⟨g3,0,none⟩) n3 aq))/\∃mv,Mems (w3.setCell ⟨E,z,none⟩ (.slice (some ⟨g3,0,none⟩) n3 aq)) D E mv (memsL t.cn (i+1) m)):=hid ⟨aW,_,by rw[F.out];exact aX⟩;clear o Z C ac ab hg aS aX aW aP be z0 zf l;go_wp2;go_roundw
   case rel=>exact⟨i+1,by omega,by go_num,s⟩
   case measure=>simp[intOf];omega
  ·have O:¬((i:Int)<(ns.length:Int)):=by omega
   have bj:i=ns.length:=by omega
   obtain⟨Z,mv,C⟩:=I.out;rw[bj]at C;obtain⟨V,bT⟩:∃V,V=wr:=⟨_,rfl⟩
   subst bT;have bo:Hid (Mems V D E mv (memsL t.cn ns.length m)):=hid C;have am:Hid (DepF V gb rC f A Az c root vs ns t.inn t.sizes):=hid (a3.out.below (Z.below (by have:=g.out;omega) (by have:=g.out;omega)));have F:Hid (Below w.heap.size w V/\D<=V.heap.size):=hid ⟨bF.out.trans (Z.below (by have:=g.out;omega) (by have:=g.out;omega)),C.hd⟩;have bu:Hid (Blk V f 3 (icells (List.replicate m 0))):=hid (Z.blk bP.out (by have:=g.out;omega));clear Z C I bj hi hlt;go_upto_region 11 with fail;clear O;go_loopw [6,49] (fun s6 s49 wr=>∃(k:Nat) (p:List Nat×Bool),k<=m/\s49=.int .i64 k/\s6=.bool p.2/\Hid (p=(List.range k).foldl (dcomp (Gr.succ ns) t.cn ns.length t.sizes) (List.replicate m 0,true)/\KB f V wr/\Blk wr f 3 (icells p.1))) (fun _ s49 _=>m-(intOf s49).toNat)
   case atStart=>exact⟨0,(List.replicate m 0,true),by omega,rfl,rfl,hid ⟨rfl,KB.refl _ _,bu.out⟩⟩
   case round=>
    obtain⟨k,p,Z,rfl,rfl,I⟩:=hrel;obtain⟨wq,bO⟩:∃wq,wq=wr:=⟨_,rfl⟩
    subst bO;by_cases hlt:k<m
    ·have O:(k:Int)<(m:Int):=by omega
     have C:=bo.out.kb I.out.2.1 (by have:=g.out;omega) (by have:=g.out;omega);obtain⟨Ak,capk,l,z0,bw⟩:=C.at_ (c:=k) (by rw[zcf];exact hlt);clear bw;rw[zcg]at z0 l;have aY:Hid (∀W,KB f V W->RowAt intL W W.heap.size Ak (members t.cn ns.length k)):=hid (fun W hW=>by
      have:=(bo.out.kb hW (by have:=g.out;omega) (by have:=g.out;omega)).row (c:=k) (by rw[zcf];exact hlt) l;rwa[zcg]at this)
     clear l;have bB:=zez t.cn ns.length k;have a9:Hid (∀x∈members t.cn ns.length k,x<ns.length):=hid (zl6 t.cn ns.length k);have a4:Hid (dcomp (Gr.succ ns) t.cn ns.length t.sizes p k=((((members t.cn ns.length k).foldl (fun p i=>(Gr.succ ns i).foldl (dstep t.cn k) p) p).1.set k (((members t.cn ns.length k).foldl (fun p i=>(Gr.succ ns i).foldl (dstep t.cn k) p) p).1.getD k 0+t.sizes.getD k 0)),((members t.cn ns.length k).foldl (fun p i=>(Gr.succ ns i).foldl (dstep t.cn k) p) p).2)):=hid rfl;obtain⟨Lk,a5⟩:=ex (members t.cn ns.length k)
     rw[a5]at z0 aY bB a9 a4;have aV:∀j,t.sizes.getD j 0<=ns.length:=fun j=>by
      by_cases hj:j<t.sizes.length
      ·rw[HC.out.cnt j hj];exact Nat.le_trans List.countP_le_length (by simp)
      ·simp[List.getD_eq_getElem?_getD,List.getElem?_eq_none (Nat.le_of_not_lt hj)]
     have bS:=hid aV;have al:p.1.length=m:=by rw[I.out.1,zf2];simp
     have P:Sml (k*ns.length) p:=by
      rw[I.out.1];refine Sml.comps (fun j=>?_) aV k;simp[List.getD_eq_getElem?_getD,List.getElem?_replicate];split<;>simp
     obtain⟨M,aK⟩:=ex (k*ns.length)
     rw[aK]at P;have aC:Hid (M<=1152921504606846976):=hid (by rw[<-aK];exact Nat.le_trans (Nat.mul_le_mul (show k<=1073741824 by omega) (show ns.length<=1073741824 by omega)) (by decide));have bk:=hid al;have a1:=hid P;clear C a5 aV al P aK;go_upto_region 14 with fail;clear z0;go_loopw [6,57] (fun s6 s57 wr=>∃(j:Nat) (q:List Nat×Bool),j<=Lk.length/\s57=.int .i64 j/\s6=.bool q.2/\Hid (q=(Lk.take j).foldl (fun p i=>(Gr.succ ns i).foldl (dstep t.cn k) p) p/\KB f V wr/\Blk wr f 3 (icells q.1))) (fun _ s57 _=>Lk.length-(intOf s57).toNat)
     case atStart=>exact⟨0,p,by omega,rfl,rfl,hid ⟨rfl,I.out.2.1,I.out.2.2⟩⟩
     case round=>
      obtain⟨j,q,hj,rfl,rfl,J⟩:=hrel;obtain⟨Q,bH⟩:∃Q,Q=wr:=⟨_,rfl⟩
      subst bH;by_cases hjl:j<Lk.length
      ·have bp:(j:Int)<(Lk.length:Int):=by omega
       obtain⟨i,hi⟩:=ex (Lk[j])
       have aB:i<ns.length:=by rw[<-hi];exact a9.out _ (List.getElem_mem hjl)
       obtain⟨adk,rfl,hadk,y0⟩:=zae (aY.out _ J.out.2.1) hjl;rw[hi]at y0;have u:=am.out.below (J.out.2.1.below (B:=f) (Nat.le_refl _) (by have:=F.out;have:=g.out;omega));have g0:Q.cell? ⟨gb,0,none⟩=some (.slice A ns.length c):=u.bg.cell 0;obtain⟨ad,ks,is,rfl,hN⟩:=u.at_.node aB;obtain⟨ka,kn,kc⟩:=ks;obtain⟨X,bA,ic⟩:=is;have ay:ns[i]∈ns:=List.getElem_mem aB;obtain⟨bf,a6⟩:=hks _ ay;have aJ:Gr.succ ns i=ns[i].keys++ns[i].items:=by unfold Gr.succ;rw[List.getElem?_eq_getElem aB]
       have aA:Hid (∀x∈ns[i].keys++ns[i].items,x<ns.length):=hid (hr _ ay);obtain⟨n,hn⟩:=ex (ns[i])
       rw[hn]at hN bf a6 aJ aA;obtain rfl:kn=n.keys.length:=hN.kn;obtain rfl:bA=n.items.length:=hN.inn;have x3:=hN.c3;have x4:=hN.c4;have bN:Hid ((Lk.take (j+1)).foldl (fun p i=>(Gr.succ ns i).foldl (dstep t.cn k) p) p=(n.keys++n.items).foldl (dstep t.cn k) q):=hid (by
        rw[zaj _ _ hjl,List.foldl_append,<-J.out.1,hi,List.foldl_cons,List.foldl_nil,aJ])
       have aZ:Hid (RowAt intL Q f ka n.keys/\RowAt intL Q f X n.items):=hid ⟨hN.keys,hN.items⟩;have hinI:(i:Int)<(ns.length:Int):=by omega
       clear u hN ay aJ hn hi;go_upto_region 16 with fail;go_region_held3 (fun w'=>w'.cell? ⟨gb,0,none⟩=some (.slice (some ad) ns.length c)/\w'.cell? {block:=(ad.add (i*5)).block,off:=(ad.add (i*5)).off+3}=some (.slice ka n.keys.length kc)/\w'.cell? {block:=(ad.add (i*5)).block,off:=(ad.add (i*5)).off+4}=some (.slice X n.items.length ic)) (go_keep) (fail);go_upto_region 17 with fail;clear x3 x4 g0 y0;obtain⟨K,aa⟩:=ex ((Q.alloc (.cells #[.slice ka n.keys.length kc,.slice X n.items.length ic] 33)).drew)
       obtain⟨lb,aN⟩:=ex Q.heap.size
       have b5:Blk K lb 33 #[.slice ka n.keys.length kc,.slice X n.items.length ic]:=by rw[<-aa,<-aN];exact(Blk.new _ _ _).drew
       have k5:KB f Q K:=by rw[<-aa];exact((KB.refl _ _).alloc _).drewN 1
       have aD:Hid (f<lb/\f<=Q.heap.size):=hid ⟨by have:=J.out.2.2.lt;omega,Nat.le_of_lt J.out.2.2.lt⟩;have ah:Hid (KB f V K/\Blk K f 3 (icells q.1)/\Blk K lb 33 #[.slice ka n.keys.length kc,.slice X n.items.length ic]):=hid ⟨J.out.2.1.trans k5,by rw[<-aa];exact(J.out.2.2.alloc _).drew,b5⟩;have ar:Hid (RowAt intL K f ka n.keys/\RowAt intL K f X n.items):=hid ⟨aZ.out.1.below (k5.below (Nat.le_refl _) aD.out.2),aZ.out.2.below (k5.below (Nat.le_refl _) aD.out.2)⟩;rw[aa,aN];clear aa b5 k5 aN;go_loopw [6,75] (fun s6 s75 wr=>∃(r:Nat) (q2:List Nat×Bool),r<=2/\s75=.int .i64 r/\s6=.bool q2.2/\Hid (q2=(if r=0 then[]else if r=1 then n.keys else n.keys++n.items).foldl (dstep t.cn k) q/\KB f K wr/\Blk wr f 3 (icells q2.1)/\Blk wr lb 33 #[.slice ka n.keys.length kc,.slice X n.items.length ic])) (fun _ s75 _=>2-(intOf s75).toNat)
       case atStart=>exact⟨0,q,by omega,rfl,rfl,hid ⟨rfl,KB.refl _ _,ah.out.2⟩⟩
       case round=>
        obtain⟨r,q2,hr2,rfl,rfl,HR⟩:=hrel;obtain⟨wx,bU⟩:∃wx,wx=wr:=⟨_,rfl⟩
        subst bU;by_cases hrl:r<2
        ·have ba:(r:Int)<2:=by omega
         obtain⟨Ax,G,cx,e1,HX⟩:∃Ax G cx,wx.cell? ⟨lb,r,none⟩=some (.slice Ax (G:List Nat).length cx)/\Hid (RowAt intL K f Ax G/\(if r+1=0 then[]else if r+1=1 then n.keys else n.keys++n.items)=(if r=0 then[]else if r=1 then n.keys else n.keys++n.items)++G/\(∀x∈G,x<ns.length)/\G.length<=1073741823):=by
          obtain rfl|rfl:r=0\/r=1:=by omega
          ·exact⟨ka,n.keys,kc,HR.out.2.2.2.cell 0,hid ⟨ar.out.1,by simp,fun x hx=>aA.out x (List.mem_append_left _ hx),bf⟩⟩
          ·exact⟨X,n.items,ic,HR.out.2.2.2.cell 1,hid ⟨ar.out.2,by simp,fun x hx=>aA.out x (List.mem_append_right _ hx),a6⟩⟩
         have hxl:=HX.out.2.2.2;go_upto_region 20 with fail;clear e1;go_loopw [6,81] (fun s6 s81 wr=>∃(y:Nat) (q3:List Nat×Bool),y<=G.length/\s81=.int .i64 y/\s6=.bool q3.2/\Hid (q3=(G.take y).foldl (dstep t.cn k) q2/\KB f K wr/\Blk wr f 3 (icells q3.1)/\Blk wr lb 33 #[.slice ka n.keys.length kc,.slice X n.items.length ic])) (fun _ s81 _=>G.length-(intOf s81).toNat)
         case atStart=>exact⟨0,q2,by omega,rfl,rfl,hid ⟨rfl,HR.out.2⟩⟩
         case round=>
          obtain⟨y,q3,hy,rfl,rfl,S⟩:=hrel;by_cases hyl:y<G.length
          ·have bl:(y:Int)<(G.length:Int):=by omega
           obtain⟨x,hx⟩:=ex (G[y])
           have bb:x<ns.length:=by rw[<-hx];exact HX.out.2.2.1 _ (List.getElem_mem hyl)
           have N:Below f K wr:=S.out.2.1.below (Nat.le_refl _) (Nat.le_of_lt ah.out.2.1.lt);obtain⟨adx,rfl,hadx,y0⟩:=zae (HX.out.1.below N) hyl;rw[hx]at y0;obtain⟨ap,R⟩:=aR.out x bb;obtain⟨d,Y⟩:∃d:Nat,t.cn x=(d:Int):=⟨(t.cn x).toNat,by omega⟩
           rw[Y,HM.out]at R;have bJ:(d:Int)<(m:Int):=by omega
           have aO:=(am.out.below (ah.out.1.below (B:=f) (Nat.le_refl _) (by have:=F.out;have:=g.out;omega))).below N;have r0:wr.cell? ⟨rC,x,none⟩=some (.int .i64 (d:Int)):=by
            rw[aO.bc.cell,zb2 (by rw[aH.out];exact bb),<-zvl,Y]
           have hxnI:(x:Int)<(ns.length:Int):=by omega
           have a7:Hid ((G.take (y+1)).foldl (dstep t.cn k) q2=dstep t.cn k q3 x):=hid (by rw[zaj _ _ hyl,List.foldl_append,<-S.out.1,hx];rfl);have hyb:y<=1073741823:=by omega
           by_cases hdk:d=k
           ·have a0:((k:Int)==(k:Int))=true:=by simp
            rw[hdk]at r0;have s:Hid ((q3.1,false)=(G.take (y+1)).foldl (dstep t.cn k) q2/\KB f K wr/\Blk wr f 3 (icells q3.1)/\Blk wr lb 33 #[.slice ka n.keys.length kc,.slice X n.items.length ic]):=hid ⟨by rw[a7.out];unfold dstep;rw[if_pos (by rw[Y,hdk])],S.out.2⟩;clear aO N Y ap R hx hdk;go_wp2;go_roundw
            case rel=>exact⟨y+1,(q3.1,false),by omega,by go_num,rfl,s⟩
            case measure=>simp[intOf];omega
           ·have a0:((d:Int)==(k:Int))=false:=by simp;omega
            have bi:¬(d:Int)=(k:Int):=by omega
            obtain⟨a,ha⟩:=ex (q3.1.getD k 0)
            obtain⟨b,hb⟩:=ex (q3.1.getD d 0)
            have bE:q3.1.length=m:=by rw[S.out.1,ze0,HR.out.1,ze0,J.out.1,zdu];exact bk.out
            have ae:Sml M q3:=by rw[S.out.1];refine Sml.fold _ ?_;rw[HR.out.1];refine Sml.fold _ ?_;rw[J.out.1];exact Sml.foldM _ _ a1.out
            have bm:a<=1152921504606846976:=by have:=ae k;have:=aC.out;omega
            have bR:b<=1152921504606846976:=by have:=ae d;have:=aC.out;omega
            have z1:wr.cell? ⟨f,k,none⟩=some (.int .i64 (a:Int)):=by rw[S.out.2.2.1.cell,zad (by omega),ha]
            have z2:wr.cell? ⟨f,d,none⟩=some (.int .i64 (b:Int)):=by rw[S.out.2.2.1.cell,zad (by omega),hb]
            have zf:∀j,wr.frozen? ⟨f,j,none⟩=false:=S.out.2.2.1.frozen;have s:∀v:Nat,v=max a b->Hid ((q3.1.set k v,q3.2)=(G.take (y+1)).foldl (dstep t.cn k) q2/\KB f K (wr.setCell ⟨f,k,none⟩ (.int .i64 (v:Int))).drew/\Blk (wr.setCell ⟨f,k,none⟩ (.int .i64 (v:Int))).drew f 3 (icells (q3.1.set k v))/\Blk (wr.setCell ⟨f,k,none⟩ (.int .i64 (v:Int))).drew lb 33 #[.slice ka n.keys.length kc,.slice X n.items.length ic]):=fun v hv=>hid ⟨by rw[a7.out];unfold dstep;rw[if_neg (by rw[Y];exact bi),Y,ha,show((d:Int)).toNat=d from by omega,hb,hv],(S.out.2.1.set _ _).drewN 1,by rw[<-zau];exact(S.out.2.2.1.set_ k _).drew,(S.out.2.2.2.far (by have:=aD.out;simp;omega) _).drew⟩
            have aI:=hid s;clear aO N Y ap R hx hdk s bE ae ha hb;go_upto_region 24 with fail;by_cases hmx:a<b
            all_goals go_region
            all_goals go_wp2_with fail
            all_goals
             go_roundw
             case rel=>first| (rw[show max (a:Int) (b:Int)=((max a b:Nat):Int)from by omega];exact⟨y+1,(q3.1.set k (max a b),q3.2),by omega,by go_num,rfl,aI.out (max a b) rfl⟩)|exact⟨y+1,(q3.1.set k a,q3.2),by omega,by go_num,rfl,aI.out a (by omega)⟩|exact⟨y+1,(q3.1.set k b,q3.2),by omega,by go_num,rfl,aI.out b (by omega)⟩
             case measure=>simp[intOf];omega
          ·have bl:¬(y:Int)<(G.length:Int):=by omega
           have s:Hid (q3=(if r+1=0 then[]else if r+1=1 then n.keys else n.keys++n.items).foldl (dstep t.cn k) q/\KB f K wr/\Blk wr f 3 (icells q3.1)/\Blk wr lb 33 #[.slice ka n.keys.length kc,.slice X n.items.length ic]):=hid ⟨by
            rw[HX.out.2.1,List.foldl_append,<-HR.out.1];have:=S.out.1;rwa[show y=G.length from by omega,List.take_length]at this,S.out.2⟩
           go_wp2;go_roundw
           case rel=>exact⟨r+1,q3,by omega,by go_num,rfl,s⟩
           case measure=>simp[intOf];omega
        ·have ba:¬(r:Int)<2:=by omega
         have s:Hid (q2=(Lk.take (j+1)).foldl (fun p i=>(Gr.succ ns i).foldl (dstep t.cn k) p) p/\KB f V wx/\Blk wx f 3 (icells q2.1)):=hid ⟨by
          have:=HR.out.1;rw[show r=2 from by omega]at this;rw[bN.out];exact this,ah.out.1.trans HR.out.2.1,HR.out.2.2.1⟩
         go_wp2;go_roundw
         case rel=>exact⟨j+1,q2,by omega,by go_num,rfl,s⟩
         case measure=>simp[intOf];omega
      ·have bp:¬(j:Int)<(Lk.length:Int):=by omega
       obtain⟨a,ha⟩:=ex (q.1.getD k 0)
       obtain⟨b,hb⟩:=ex (t.sizes.getD k 0)
       have hq:q=Lk.foldl (fun p i=>(Gr.succ ns i).foldl (dstep t.cn k) p) p:=by
        have:=J.out.1;rwa[show j=Lk.length from by omega,List.take_length]at this
       have bM:q.1.length=m:=by rw[hq,zdu];exact bk.out
       have bm:a<=1152921504606846976:=by
        have h1:Sml M q:=by rw[hq];exact Sml.foldM _ _ a1.out
        have:=h1 k;have:=aC.out;omega
       have bR:b<=1073741823:=by have:=bS.out k;omega
       have u:=am.out.below (J.out.2.1.below (B:=f) (Nat.le_refl _) (by have:=F.out;have:=g.out;omega));have aM:k<t.sizes.length:=by rw[HM.out];exact hlt
       have a8:t.sizes[k]=b:=by rw[<-hb];simp[List.getD_eq_getElem?_getD,List.getElem?_eq_getElem aM]
       obtain⟨adz,rfl,hadz,z2⟩:=zae u.rz aM;rw[a8]at z2;have z1:Q.cell? ⟨f,k,none⟩=some (.int .i64 (a:Int)):=by rw[J.out.2.2.cell,zad (by omega),ha]
       have zf:∀j,Q.frozen? ⟨f,j,none⟩=false:=J.out.2.2.frozen;have s:Hid ((q.1.set k (a+b),q.2)=(List.range (k+1)).foldl (dcomp (Gr.succ ns) t.cn ns.length t.sizes) (List.replicate m 0,true)/\KB f V (Q.setCell ⟨f,k,none⟩ (.int .i64 ((a:Int)+(b:Int)))).drew/\Blk (Q.setCell ⟨f,k,none⟩ (.int .i64 ((a:Int)+(b:Int)))).drew f 3 (icells (q.1.set k (a+b)))):=hid ⟨by
        rw[List.range_succ,List.foldl_append,<-I.out.1,List.foldl_cons,List.foldl_nil,a4.out,<-hq,ha,hb],(J.out.2.1.set _ _).drewN 1,by
        rw[<-zau,show(((a+b:Nat)):Int)=(a:Int)+(b:Int)from by omega];exact(J.out.2.2.set_ k _).drew⟩
       clear ha hb hq bM u a8 aM;go_upto_region 28 with fail;go_region
       all_goals go_wp2_with fail
       all_goals
        go_roundw
        case rel=>exact⟨k+1,(q.1.set k (a+b),q.2),by omega,by go_num,rfl,s⟩
        case measure=>simp[intOf];omega
    ·have O:¬(k:Int)<(m:Int):=by omega
     have aG:k=m:=by omega
     have u:=am.out.below (I.out.2.1.below (B:=f) (Nat.le_refl _) (by have:=F.out;have:=g.out;omega));obtain⟨ap,R⟩:=aR.out root hroot;obtain⟨d,Y⟩:∃d:Nat,t.cn root=(d:Int):=⟨(t.cn root).toNat,by omega⟩
     rw[Y,HM.out]at R;have bJ:(d:Int)<(m:Int):=by omega
     have r0:wq.cell? ⟨rC,root,none⟩=some (.int .i64 (d:Int)):=by
      rw[u.bc.cell,zb2 (by rw[aH.out];exact hroot),<-zvl,Y]
     have g1:wq.cell? ⟨gb,1,none⟩=some (.int .i64 root):=u.bg.cell 1;obtain⟨a,ha⟩:=ex (p.1.getD d 0)
     have al:p.1.length=m:=by rw[I.out.1,zf2];simp
     have z0:wq.cell? ⟨f,d,none⟩=some (.int .i64 (a:Int)):=by rw[I.out.2.2.cell,zad (by omega),ha]
     have P:Sml (m*ns.length) p:=by
      rw[I.out.1,<-aG];refine Sml.comps (fun j=>?_) (fun j=>?_) k
      ·simp[List.getD_eq_getElem?_getD,List.getElem?_replicate];split<;>simp
      ·by_cases hj:j<t.sizes.length
       ·rw[HC.out.cnt j hj];exact Nat.le_trans List.countP_le_length (by simp)
       ·simp[List.getD_eq_getElem?_getD,List.getElem?_eq_none (Nat.le_of_not_lt hj)]
     have bm:a<=1152921504606846976:=by
      have:=P d;have h2:m*ns.length<=1152921504606846976:=Nat.le_trans (Nat.mul_le_mul (show m<=1073741824 by omega) (show ns.length<=1073741824 by omega)) (by decide);omega
     have aw:Hid ((depth ns root).1=(a:Int)-1/\(depth ns root).2=p.2):=hid (by
      have hp:p=dall (Gr.succ ns) t.cn ns.length t.sizes:=by rw[I.out.1,aG];unfold dall;rw[HM.out]
      unfold depth;simp only[HT.out];rw[<-hp,Y,<-ha];exact⟨rfl,rfl⟩)
     have bL:Hid (Below w.heap.size w wq):=hid (F.out.1.trans (I.out.2.1.below (by have:=g.out;omega) (by have:=g.out;have:=F.out;omega)));clear aG u ap R Y ha al P;go_wp2;go_ret2;rw[aw.out.1,aw.out.2];exact⟨rfl,bL.out⟩
end Go.Proofs.YtoigpackhninoaaGreatDoor

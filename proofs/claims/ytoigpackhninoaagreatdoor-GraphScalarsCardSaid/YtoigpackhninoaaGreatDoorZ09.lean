/- Walks: components. The depth's walk: the rows of members, and plain parts. Walks: pad; a moment's text. -/
import Derived.Test.YtoigpackhninoaaGreatDoorZ08
import Derived.Test.YtoigpackhninoaaGreatDoorZ24
import Derived.Test.YtoigpackhninoaaGreatDoorZ18
import Derived.Test.YtoigpackhninoaaGreatDoorZ02
namespace Go.Proofs.YtoigpackhninoaaGreatDoor
set_option maxRecDepth 100000
set_option maxHeartbeats 16000000
open Go.RowKit
structure Mk3 (n:Nat) (w1 W:World) (f:Nat->Bool) (r b:Nat->Nat):Prop where
 below:Below w1.heap.size w1 W
 row:∀j,j<3->f (2*j+1)=true->w1.heap.size<=r j/\Blk W (r j) 3 (icells (List.replicate n 0))
 box:∀j,j<3->f (6+j)=true->w1.heap.size<=b j/\Blk W (b j) 33 #[if f (9+j)then .slice (some ⟨r j,0,none⟩) n n else .slice none 0 0]
 rr:∀j k,j<3->k<3->j≠k->f (2*j+1)=true->f (2*k+1)=true->r j≠r k
 bb:∀j k,j<3->k<3->j≠k->f (6+j)=true->f (6+k)=true->b j≠b k
def upd {α:Type} (f:Nat->α) (i:Nat) (x:α):Nat->α:=fun k=>if k=i then x else f k
theorem Mk3.start (n:Nat) (w1:World) (r b:Nat->Nat):Mk3 n w1 w1.drew (fun _=>false) r b:=
 ⟨below_drewN (Below.refl _ _) 1,fun _ _ h=>by(cases h),fun _ _ h=>by(cases h),fun _ _ _ _ _ h=>by(cases h),fun _ _ _ _ _ h=>by(cases h)⟩
variable {n:Nat} {w1 W:World} {f:Nat->Bool} {r b:Nat->Nat}
theorem Mk3.mark (h:Mk3 n w1 W f r b) (i:Nat) (hi:i=0\/i=2\/i=4):Mk3 n w1 W (upd f i true) r b:=by
 have e:∀k,k≠i->upd f i true k=f k:=fun k hk=>by unfold upd;rw[if_neg hk]
 refine⟨h.below,fun j hj=>?_,fun j hj=>?_,fun j k hj hk=>?_,fun j k hj hk=>?_⟩
 ·rw[e _ (by omega)];exact h.row j hj
 ·rw[e _ (by omega),e _ (by omega)];exact h.box j hj
 ·rw[e _ (by omega),e _ (by omega)];exact h.rr j k hj hk
 ·rw[e _ (by omega),e _ (by omega)];exact h.bb j k hj hk
theorem Mk3.make (h:Mk3 n w1 W f r b) (j0:Nat) (hj0:j0<3) (hs:f (9+j0)=false):Mk3 n w1 (W.alloc (.cells (icells (List.replicate n 0)) 3)) (upd f (2*j0+1) true) (upd r j0 W.heap.size) b:=by
 have e:∀k,k≠2*j0+1->upd f (2*j0+1) true k=f k:=fun k hk=>by unfold upd;rw[if_neg hk]
 have er:∀k,k≠j0->upd r j0 W.heap.size k=r k:=fun k hk=>by unfold upd;rw[if_neg hk]
 have er0:upd r j0 W.heap.size j0=W.heap.size:=by unfold upd;rw[if_pos rfl]
 have hws:=h.below.size;refine⟨h.below.alloc hws _,fun j hj hf=>?_,fun j hj=>?_,fun j k hj hk hne hf hg=>?_,fun j k hj hk=>?_⟩
 ·by_cases hjj:j=j0
  ·subst hjj;rw[er0];exact⟨hws,Blk.new _ _ _⟩
  ·rw[e _ (by omega)]at hf;rw[er _ hjj];obtain⟨h1,h2⟩:=h.row j hj hf;exact⟨h1,h2.alloc _⟩
 ·rw[e _ (by omega),e _ (by omega)];intro hf;obtain⟨h1,h2⟩:=h.box j hj hf;refine⟨h1,?_⟩;by_cases hjj:j=j0
  ·subst hjj;rw[hs]at h2 ⊢;exact h2.alloc _
  ·rw[er _ hjj];exact h2.alloc _
 ·by_cases hjj:j=j0
  ·subst hjj;rw[er0,er k (by omega)];rw[e _ (by omega)]at hg;have:=(h.row k hk hg).2.lt;omega
  ·rw[e _ (by omega)]at hf;rw[er j hjj];by_cases hkk:k=j0
   ·subst hkk;rw[er0];have:=(h.row j hj hf).2.lt;omega
   ·rw[e _ (by omega)]at hg;rw[er k hkk];exact h.rr j k hj hk hne hf hg
 ·rw[e _ (by omega),e _ (by omega)];exact h.bb j k hj hk
theorem Mk3.boxed (h:Mk3 n w1 W f r b) (j0:Nat) (hj0:j0<3) (hs:f (9+j0)=false):Mk3 n w1 (W.alloc (.cells #[.slice none 0 0] 33)) (upd f (6+j0) true) r (upd b j0 W.heap.size):=by
 have e:∀k,k≠6+j0->upd f (6+j0) true k=f k:=fun k hk=>by unfold upd;rw[if_neg hk]
 have er:∀k,k≠j0->upd b j0 W.heap.size k=b k:=fun k hk=>by unfold upd;rw[if_neg hk]
 have er0:upd b j0 W.heap.size j0=W.heap.size:=by unfold upd;rw[if_pos rfl]
 have hws:=h.below.size;refine⟨h.below.alloc hws _,fun j hj=>?_,fun j hj hf=>?_,fun j k hj hk=>?_,fun j k hj hk hne hf hg=>?_⟩
 ·rw[e _ (by omega)];intro hf;obtain⟨h1,h2⟩:=h.row j hj hf;exact⟨h1,h2.alloc _⟩
 ·rw[e (9+j) (by omega)];by_cases hjj:j=j0
  ·subst hjj;rw[er0,hs];exact⟨hws,Blk.new _ _ _⟩
  ·rw[e _ (by omega)]at hf;rw[er _ hjj];obtain⟨h1,h2⟩:=h.box j hj hf;exact⟨h1,h2.alloc _⟩
 ·rw[e _ (by omega),e _ (by omega)];exact h.rr j k hj hk
 ·by_cases hjj:j=j0
  ·subst hjj;rw[er0,er k (by omega)];rw[e _ (by omega)]at hg;have:=(h.box k hk hg).2.lt;omega
  ·rw[e _ (by omega)]at hf;rw[er j hjj];by_cases hkk:k=j0
   ·subst hkk;rw[er0];have:=(h.box j hj hf).2.lt;omega
   ·rw[e _ (by omega)]at hg;rw[er k hkk];exact h.bb j k hj hk hne hf hg
theorem Mk3.fill (h:Mk3 n w1 W f r b) (j0:Nat) (hj0:j0<3) (hb:f (6+j0)=true):Mk3 n w1 (W.setCell ⟨b j0,0,none⟩ (.slice (some ⟨r j0,0,none⟩) n n)) (upd f (9+j0) true) r b:=by
 have e:∀k,k≠9+j0->upd f (9+j0) true k=f k:=fun k hk=>by unfold upd;rw[if_neg hk]
 have e0:upd f (9+j0) true (9+j0)=true:=by unfold upd;rw[if_pos rfl]
 obtain⟨h1,h2⟩:=h.box j0 hj0 hb;refine⟨h.below.setCell (p:=⟨b j0,0,none⟩) h1 _,fun j hj=>?_,fun j hj hf=>?_,fun j k hj hk=>?_,fun j k hj hk=>?_⟩
 ·rw[e _ (by omega)];intro hf;obtain⟨h3,h4⟩:=h.row j hj hf;exact⟨h3,h4.far (h4.ne_ h2 (by decide)) _⟩
 ·rw[e (6+j) (by omega)]at hf;obtain⟨h3,h4⟩:=h.box j hj hf;refine⟨h3,?_⟩;by_cases hjj:j=j0
  ·subst hjj;rw[e0,if_pos rfl];exact h2.set_ 0 _
  ·rw[e (9+j) (by omega)];exact h4.far (h.bb j j0 hj hj0 hjj hf hb) _
 ·rw[e _ (by omega),e _ (by omega)];exact h.rr j k hj hk
 ·rw[e _ (by omega),e _ (by omega)];exact h.bb j k hj hk
def left12 (f:Nat->Bool):Nat:=cond (f 0) 0 1+cond (f 1) 0 1+cond (f 2) 0 1+cond (f 3) 0 1+cond (f 4) 0 1+cond (f 5) 0 1+cond (f 6) 0 1+cond (f 7) 0 1+cond (f 8) 0 1+cond (f 9) 0 1+cond (f 10) 0 1+cond (f 11) 0 1
theorem left12_upd (f:Nat->Bool) (i:Nat) (hi:i<12) (h:f i=false):left12 f=left12 (upd f i true)+1:=by
 unfold left12 upd;obtain rfl|rfl|rfl|rfl|rfl|rfl|rfl|rfl|rfl|rfl|rfl|rfl:i=0\/i=1\/i=2\/i=3\/i=4\/i=5\/i=6\/i=7\/i=8\/i=9\/i=10\/i=11:=by omega
 all_goals
  simp only[h,if_true,cond_true,cond_false];simp
  try omega
theorem components_any (A:Option Addr) (c root:Nat) (vs:List NV) (ns:List Gr.Nd) (hr:Gr.Refs ns) (hl:ns.length<=1073741823) (hks:∀n∈ns,n.keys.length<=1073741823/\n.items.length<=1073741823) (hroot:root<ns.length)
 (w:World) (h:GAt w w.heap.size A vs ns):
 Calls Tryz.prog 65 #[.agg #[.slice A ns.length c,.int .i64 root]] w fun e w'=>∃rC Az cz,e=.returned (.tuple #[.slice (some ⟨rC,0,none⟩) ns.length ns.length,.slice Az (Gr.tcomp (Gr.succ ns) ns.length root).sizes.length cz])/\w.heap.size<=rC/\Below w.heap.size w w'/\
  Blk w' rC 3 (jcells (Gr.tcomp (Gr.succ ns) ns.length root).inn)/\OwnRow intL w' w.heap.size 3 (.slice Az (Gr.tcomp (Gr.succ ns) ns.length root).sizes.length cz) (Gr.tcomp (Gr.succ ns) ns.length root).sizes:=by
 have H:=Lib.hid h;have hmk:=fun W=>make_ints ns.length (by omega) W
 have hmb:=fun W=>make_bools ns.length (by omega) W
 have hrI:(root:Int)<(ns.length:Int):=by omega
 clear h;go_enter Tryz.func65,Tryz.ntmps65;go_upto_region 2 with fail;obtain⟨w1,hw1⟩:∃w1,w.alloc (.cells #[.slice A ns.length c,.int .i64 root] 24)=w1:=⟨_,rfl⟩
 (try rw[hw1]);have HW1:=Lib.hid hw1;obtain⟨gb,hgb⟩:∃gb,w.heap.size=gb:=⟨_,rfl⟩
 (try rw[hgb]);have HGB:=Lib.hid hgb;clear hw1 hgb;go_cut [5,6,7] (fun s5 s6 s7 wx=>∃r b:Nat->Nat,s5=.pointer (some ⟨b 0,0,none⟩)/\s6=.pointer (some ⟨b 1,0,none⟩)/\s7=.pointer (some ⟨b 2,0,none⟩)/\Hid (Mk3 ns.length w1 wx (fun _=>true) r b))
 case first=>
  refine wp_region_any (by kernel_rfl) ?_;refine wpAny_sets (fun m listed a' w'=>∃(f:Nat->Bool) (r b:Nat->Nat) (x17 x18 x19 x20 x21 x22 p5 p6 p7:Value),listed=#[f 0,f 1,f 2,f 3,f 4,f 5,f 6,f 7,f 8,f 9,f 10,f 11]/\m=left12 f/\Hid (Mk3 ns.length w1 w' f r b)/\(f 0=true->x17=.int .i64 ns.length)/\(f 1=true->x18=.slice (some ⟨r 0,0,none⟩) ns.length ns.length)/\(f 6=true->p5=.pointer (some ⟨b 0,0,none⟩))/\(f 9=true->f 1=true/\f 6=true)/\(f 2=true->x19=.int .i64 ns.length)/\(f 3=true->x20=.slice (some ⟨r 1,0,none⟩) ns.length ns.length)/\(f 7=true->p6=.pointer (some ⟨b 1,0,none⟩))/\(f 10=true->f 3=true/\f 7=true)/\(f 4=true->x21=.int .i64 ns.length)/\(f 5=true->x22=.slice (some ⟨r 2,0,none⟩) ns.length ns.length)/\(f 8=true->p7=.pointer (some ⟨b 2,0,none⟩))/\(f 11=true->f 5=true/\f 8=true)/\a'={tmps:=List.toArray (.agg #[.slice A ns.length c,.int .i64 root]::.pointer (some ⟨gb,0,none⟩)::.slice none 0 0::.slice none 0 0::.int .i64 ns.length::p5::p6::p7::undef::undef::undef::undef::undef::undef::.pointer (some ⟨gb,0,none⟩)::.slice A ns.length c::.int .i64 ns.length::x17::x18::x19::x20::x21::x22::undef::undef::undef::undef::undef::undef::undef::undef::undef::undef::undef::undef::undef::undef::undef::undef::undef::undef::[]),defers:=[]}) ?step ?fin _ _ _ _ ?start
  case start=>
   exact⟨fun _=>false,fun _=>0,fun _=>0,undef,undef,undef,undef,undef,undef,undef,undef,undef,rfl,rfl,Lib.hid (Mk3.start _ _ _ _),fun h=>(by cases h),fun h=>(by cases h),fun h=>(by cases h),fun h=>(by cases h),fun h=>(by cases h),fun h=>(by cases h),fun h=>(by cases h),fun h=>(by cases h),fun h=>(by cases h),fun h=>(by cases h),fun h=>(by cases h),fun h=>(by cases h),rfl⟩
  case step=>
   rintro m listed a' w' i ⟨f,r,b,x17,x18,x19,x20,x21,x22,p5,p6,p7,rfl,rfl,HM,m0,k0,q0,s0,m1,k1,q1,s1,m2,k2,q2,s2,rfl⟩ hi;rw[mem_ready]at hi;obtain⟨hi0,o,ho,hd⟩:=hi;have hi12:i<12:=(Array.getElem?_eq_some_iff.1 ho).1;obtain rfl|rfl|rfl|rfl|rfl|rfl|rfl|rfl|rfl|rfl|rfl|rfl:i=0\/i=1\/i=2\/i=3\/i=4\/i=5\/i=6\/i=7\/i=8\/i=9\/i=10\/i=11:=by omega
   ·have e0:f 0=false:=by simpa using hi0
    obtain rfl:=Option.some.inj (show some _=some o from ho);exact⟨left12 (upd f 0 true),left12_upd f 0 (by omega) e0,op_value (.int .i64 ns.length) rfl rfl (by simp[execOp,go_sem]) ⟨upd f 0 true,r,b,.int .i64 ns.length,x18,x19,x20,x21,x22,p5,p6,p7,rfl,rfl,Lib.hid (HM.out.mark 0 (by omega)),fun _=>rfl,k0,q0,s0,m1,k1,q1,s1,m2,k2,q2,s2,rfl⟩⟩
   ·have e0:f 1=false:=by simpa using hi0
    obtain rfl:=Option.some.inj (show some _=some o from ho);have d0:f 0=true:=by simpa using hd ⟨0,.data⟩ (by simp) rfl
    have hx:=m0 d0;subst hx;have hs:f 9=false:=by cases hq:f 9 with|false=>rfl|true=>rw[(s0 hq).1]at e0;cases e0
    exact⟨left12 (upd f 1 true),left12_upd f 1 (by omega) e0,op_value (.slice (some ⟨w'.heap.size,0,none⟩) ns.length ns.length) rfl rfl (by simp[execOp,go_sem,hmk]) ⟨upd f 1 true,upd r 0 w'.heap.size,b,.int .i64 ns.length,(.slice (some ⟨w'.heap.size,0,none⟩) ns.length ns.length),x19,x20,x21,x22,p5,p6,p7,rfl,rfl,Lib.hid (HM.out.make 0 (by omega) hs),m0,fun _=>rfl,q0,fun h=>⟨rfl,(s0 h).2⟩,m1,k1,q1,s1,m2,k2,q2,s2,rfl⟩⟩
   ·have e0:f 2=false:=by simpa using hi0
    obtain rfl:=Option.some.inj (show some _=some o from ho);exact⟨left12 (upd f 2 true),left12_upd f 2 (by omega) e0,op_value (.int .i64 ns.length) rfl rfl (by simp[execOp,go_sem]) ⟨upd f 2 true,r,b,x17,x18,.int .i64 ns.length,x20,x21,x22,p5,p6,p7,rfl,rfl,Lib.hid (HM.out.mark 2 (by omega)),m0,k0,q0,s0,fun _=>rfl,k1,q1,s1,m2,k2,q2,s2,rfl⟩⟩
   ·have e0:f 3=false:=by simpa using hi0
    obtain rfl:=Option.some.inj (show some _=some o from ho);have d0:f 2=true:=by simpa using hd ⟨2,.data⟩ (by simp) rfl
    have hx:=m1 d0;subst hx;have hs:f 10=false:=by cases hq:f 10 with|false=>rfl|true=>rw[(s1 hq).1]at e0;cases e0
    exact⟨left12 (upd f 3 true),left12_upd f 3 (by omega) e0,op_value (.slice (some ⟨w'.heap.size,0,none⟩) ns.length ns.length) rfl rfl (by simp[execOp,go_sem,hmk]) ⟨upd f 3 true,upd r 1 w'.heap.size,b,x17,x18,.int .i64 ns.length,(.slice (some ⟨w'.heap.size,0,none⟩) ns.length ns.length),x21,x22,p5,p6,p7,rfl,rfl,Lib.hid (HM.out.make 1 (by omega) hs),m0,k0,q0,s0,m1,fun _=>rfl,q1,fun h=>⟨rfl,(s1 h).2⟩,m2,k2,q2,s2,rfl⟩⟩
   ·have e0:f 4=false:=by simpa using hi0
    obtain rfl:=Option.some.inj (show some _=some o from ho);exact⟨left12 (upd f 4 true),left12_upd f 4 (by omega) e0,op_value (.int .i64 ns.length) rfl rfl (by simp[execOp,go_sem]) ⟨upd f 4 true,r,b,x17,x18,x19,x20,.int .i64 ns.length,x22,p5,p6,p7,rfl,rfl,Lib.hid (HM.out.mark 4 (by omega)),m0,k0,q0,s0,m1,k1,q1,s1,fun _=>rfl,k2,q2,s2,rfl⟩⟩
   ·have e0:f 5=false:=by simpa using hi0
    obtain rfl:=Option.some.inj (show some _=some o from ho);have d0:f 4=true:=by simpa using hd ⟨4,.data⟩ (by simp) rfl
    have hx:=m2 d0;subst hx;have hs:f 11=false:=by cases hq:f 11 with|false=>rfl|true=>rw[(s2 hq).1]at e0;cases e0
    exact⟨left12 (upd f 5 true),left12_upd f 5 (by omega) e0,op_value (.slice (some ⟨w'.heap.size,0,none⟩) ns.length ns.length) rfl rfl (by simp[execOp,go_sem,hmk]) ⟨upd f 5 true,upd r 2 w'.heap.size,b,x17,x18,x19,x20,.int .i64 ns.length,(.slice (some ⟨w'.heap.size,0,none⟩) ns.length ns.length),p5,p6,p7,rfl,rfl,Lib.hid (HM.out.make 2 (by omega) hs),m0,k0,q0,s0,m1,k1,q1,s1,m2,fun _=>rfl,q2,fun h=>⟨rfl,(s2 h).2⟩,rfl⟩⟩
   ·have e0:f 6=false:=by simpa using hi0
    obtain rfl:=Option.some.inj (show some _=some o from ho);have hs:f 9=false:=by cases hq:f 9 with|false=>rfl|true=>rw[(s0 hq).2]at e0;cases e0
    exact⟨left12 (upd f 6 true),left12_upd f 6 (by omega) e0,op_value (.pointer (some ⟨w'.heap.size,0,none⟩)) rfl rfl (by simp[execOp,go_sem]) ⟨upd f 6 true,r,upd b 0 w'.heap.size,x17,x18,x19,x20,x21,x22,(.pointer (some ⟨w'.heap.size,0,none⟩)),p6,p7,rfl,rfl,Lib.hid (HM.out.boxed 0 (by omega) hs),m0,k0,fun _=>rfl,fun h=>⟨(s0 h).1,rfl⟩,m1,k1,q1,s1,m2,k2,q2,s2,rfl⟩⟩
   ·have e0:f 7=false:=by simpa using hi0
    obtain rfl:=Option.some.inj (show some _=some o from ho);have hs:f 10=false:=by cases hq:f 10 with|false=>rfl|true=>rw[(s1 hq).2]at e0;cases e0
    exact⟨left12 (upd f 7 true),left12_upd f 7 (by omega) e0,op_value (.pointer (some ⟨w'.heap.size,0,none⟩)) rfl rfl (by simp[execOp,go_sem]) ⟨upd f 7 true,r,upd b 1 w'.heap.size,x17,x18,x19,x20,x21,x22,p5,(.pointer (some ⟨w'.heap.size,0,none⟩)),p7,rfl,rfl,Lib.hid (HM.out.boxed 1 (by omega) hs),m0,k0,q0,s0,m1,k1,fun _=>rfl,fun h=>⟨(s1 h).1,rfl⟩,m2,k2,q2,s2,rfl⟩⟩
   ·have e0:f 8=false:=by simpa using hi0
    obtain rfl:=Option.some.inj (show some _=some o from ho);have hs:f 11=false:=by cases hq:f 11 with|false=>rfl|true=>rw[(s2 hq).2]at e0;cases e0
    exact⟨left12 (upd f 8 true),left12_upd f 8 (by omega) e0,op_value (.pointer (some ⟨w'.heap.size,0,none⟩)) rfl rfl (by simp[execOp,go_sem]) ⟨upd f 8 true,r,upd b 2 w'.heap.size,x17,x18,x19,x20,x21,x22,p5,p6,(.pointer (some ⟨w'.heap.size,0,none⟩)),rfl,rfl,Lib.hid (HM.out.boxed 2 (by omega) hs),m0,k0,q0,s0,m1,k1,q1,s1,m2,k2,fun _=>rfl,fun h=>⟨(s2 h).1,rfl⟩,rfl⟩⟩
   ·have e0:f 9=false:=by simpa using hi0
    obtain rfl:=Option.some.inj (show some _=some o from ho);have d1:f 6=true:=by simpa using hd ⟨6,.data⟩ (by simp) rfl
    have d2:f 1=true:=by simpa using hd ⟨1,.data⟩ (by simp) rfl
    have hx:=k0 d2;subst hx;have hp:=q0 d1;subst hp;have hbx:=(HM.out.box 0 (by omega) d1).2;have hc:w'.cell? ⟨b 0,0,none⟩=some (.slice none 0 0):=by rw[hbx.cell 0];simp[e0]
    have hz:=hbx.frozen 0;exact⟨left12 (upd f 9 true),left12_upd f 9 (by omega) e0,op_skip (w':=w'.setCell ⟨b 0,0,none⟩ (.slice (some ⟨r 0,0,none⟩) ns.length ns.length)) rfl rfl (by simp[execOp,go_sem,hc,hz]) ⟨upd f 9 true,r,b,x17,(.slice (some ⟨r 0,0,none⟩) ns.length ns.length),x19,x20,x21,x22,(.pointer (some ⟨b 0,0,none⟩)),p6,p7,rfl,rfl,Lib.hid (HM.out.fill 0 (by omega) d1),m0,k0,q0,fun _=>⟨d2,d1⟩,m1,k1,q1,s1,m2,k2,q2,s2,rfl⟩⟩
   ·have e0:f 10=false:=by simpa using hi0
    obtain rfl:=Option.some.inj (show some _=some o from ho);have d1:f 7=true:=by simpa using hd ⟨7,.data⟩ (by simp) rfl
    have d2:f 3=true:=by simpa using hd ⟨3,.data⟩ (by simp) rfl
    have hx:=k1 d2;subst hx;have hp:=q1 d1;subst hp;have hbx:=(HM.out.box 1 (by omega) d1).2;have hc:w'.cell? ⟨b 1,0,none⟩=some (.slice none 0 0):=by rw[hbx.cell 0];simp[e0]
    have hz:=hbx.frozen 0;exact⟨left12 (upd f 10 true),left12_upd f 10 (by omega) e0,op_skip (w':=w'.setCell ⟨b 1,0,none⟩ (.slice (some ⟨r 1,0,none⟩) ns.length ns.length)) rfl rfl (by simp[execOp,go_sem,hc,hz]) ⟨upd f 10 true,r,b,x17,x18,x19,(.slice (some ⟨r 1,0,none⟩) ns.length ns.length),x21,x22,p5,(.pointer (some ⟨b 1,0,none⟩)),p7,rfl,rfl,Lib.hid (HM.out.fill 1 (by omega) d1),m0,k0,q0,s0,m1,k1,q1,fun _=>⟨d2,d1⟩,m2,k2,q2,s2,rfl⟩⟩
   ·have e0:f 11=false:=by simpa using hi0
    obtain rfl:=Option.some.inj (show some _=some o from ho);have d1:f 8=true:=by simpa using hd ⟨8,.data⟩ (by simp) rfl
    have d2:f 5=true:=by simpa using hd ⟨5,.data⟩ (by simp) rfl
    have hx:=k2 d2;subst hx;have hp:=q2 d1;subst hp;have hbx:=(HM.out.box 2 (by omega) d1).2;have hc:w'.cell? ⟨b 2,0,none⟩=some (.slice none 0 0):=by rw[hbx.cell 0];simp[e0]
    have hz:=hbx.frozen 0;exact⟨left12 (upd f 11 true),left12_upd f 11 (by omega) e0,op_skip (w':=w'.setCell ⟨b 2,0,none⟩ (.slice (some ⟨r 2,0,none⟩) ns.length ns.length)) rfl rfl (by simp[execOp,go_sem,hc,hz]) ⟨upd f 11 true,r,b,x17,x18,x19,x20,x21,(.slice (some ⟨r 2,0,none⟩) ns.length ns.length),p5,p6,(.pointer (some ⟨b 2,0,none⟩)),rfl,rfl,Lib.hid (HM.out.fill 2 (by omega) d1),m0,k0,q0,s0,m1,k1,q1,s1,m2,k2,q2,fun _=>⟨d2,d1⟩,rfl⟩⟩
  case fin=>
   rintro m listed a' w' ⟨f,r,b,x17,x18,x19,x20,x21,x22,p5,p6,p7,rfl,rfl,HM,m0,k0,q0,s0,m1,k1,q1,s1,m2,k2,q2,s2,rfl⟩ hr;have nm:=fun i=>mt mem_ready.2 (List.eq_nil_iff_forall_not_mem.1 hr i)
   have t0:f 0=true:=by
    cases e:f 0 with
    |true=>rfl
    |false=>exact(nm 0 ⟨by simpa using e,_,rfl,by simp[Region.binds, *]⟩).elim
   have t2:f 2=true:=by
    cases e:f 2 with
    |true=>rfl
    |false=>exact(nm 2 ⟨by simpa using e,_,rfl,by simp[Region.binds, *]⟩).elim
   have t4:f 4=true:=by
    cases e:f 4 with
    |true=>rfl
    |false=>exact(nm 4 ⟨by simpa using e,_,rfl,by simp[Region.binds, *]⟩).elim
   have t6:f 6=true:=by
    cases e:f 6 with
    |true=>rfl
    |false=>exact(nm 6 ⟨by simpa using e,_,rfl,by simp[Region.binds, *]⟩).elim
   have t7:f 7=true:=by
    cases e:f 7 with
    |true=>rfl
    |false=>exact(nm 7 ⟨by simpa using e,_,rfl,by simp[Region.binds, *]⟩).elim
   have t8:f 8=true:=by
    cases e:f 8 with
    |true=>rfl
    |false=>exact(nm 8 ⟨by simpa using e,_,rfl,by simp[Region.binds, *]⟩).elim
   have t1:f 1=true:=by
    cases e:f 1 with
    |true=>rfl
    |false=>exact(nm 1 ⟨by simpa using e,_,rfl,by simp[Region.binds, *]⟩).elim
   have t3:f 3=true:=by
    cases e:f 3 with
    |true=>rfl
    |false=>exact(nm 3 ⟨by simpa using e,_,rfl,by simp[Region.binds, *]⟩).elim
   have t5:f 5=true:=by
    cases e:f 5 with
    |true=>rfl
    |false=>exact(nm 5 ⟨by simpa using e,_,rfl,by simp[Region.binds, *]⟩).elim
   have t9:f 9=true:=by
    cases e:f 9 with
    |true=>rfl
    |false=>exact(nm 9 ⟨by simpa using e,_,rfl,by simp[Region.binds, *]⟩).elim
   have t10:f 10=true:=by
    cases e:f 10 with
    |true=>rfl
    |false=>exact(nm 10 ⟨by simpa using e,_,rfl,by simp[Region.binds, *]⟩).elim
   have t11:f 11=true:=by
    cases e:f 11 with
    |true=>rfl
    |false=>exact(nm 11 ⟨by simpa using e,_,rfl,by simp[Region.binds, *]⟩).elim
   have hf:f=fun k=>f k:=rfl
   have hall:∀k,k<12->f k=true:=by
    intro k hk;obtain rfl|rfl|rfl|rfl|rfl|rfl|rfl|rfl|rfl|rfl|rfl|rfl:k=0\/k=1\/k=2\/k=3\/k=4\/k=5\/k=6\/k=7\/k=8\/k=9\/k=10\/k=11:=by omega
    all_goals assumption
   have hM:Mk3 ns.length w1 w' (fun _=>true) r b:=⟨HM.out.below,fun j hj _=>HM.out.row j hj (hall _ (by omega)),fun j hj _=>by
    have:=HM.out.box j hj (hall _ (by omega));rw[hall (9+j) (by omega)]at this;exact this,fun j k hj hk hne _ _=>HM.out.rr j k hj hk hne (hall _ (by omega)) (hall _ (by omega)),fun j k hj hk hne _ _=>HM.out.bb j k hj hk hne (hall _ (by omega)) (hall _ (by omega))⟩
   have hp5:=q0 t6;have hp6:=q1 t7;have hp7:=q2 t8;subst hp5;subst hp6;subst hp7;have HMM:=Lib.hid hM;clear hM hall hf nm hr HM m0 k0 q0 s0 m1 k1 q1 s1 m2 k2 q2 s2 t0 t1 t2 t3 t4 t5 t6 t7 t8 t9 t10 t11;go_wp2_with fail;go_meet;exact⟨r,b,rfl,rfl,rfl,HMM⟩
 case rest=>
  obtain⟨r,b,rfl,rfl,rfl,HM⟩:=hcut;obtain⟨m0,hm0⟩:∃m0:Nat->List Int,(fun k=>List.replicate k (-1:Int)++List.replicate (ns.length-k) 0)=m0:=⟨_,rfl⟩
  have HM0:Hid (∀k,k<ns.length->(m0 k).set k (-1)=m0 (k+1)/\(m0 k).length=ns.length/\(m0 k).getD k (-1)=0):=Lib.hid (fun k hk=>by
   rw[<-hm0];refine⟨?_,by simp;omega,?_⟩
   ·simp only;rw[List.set_append_right _ _ (by simp),List.length_replicate,Nat.sub_self,show ns.length-k=(ns.length-(k+1))+1 from by omega,List.replicate_succ,List.set_cons_zero,List.replicate_succ',List.append_assoc];rfl
   ·simp only;rw[List.getD_eq_getElem?_getD,List.getElem?_append_right (by simp),List.length_replicate,Nat.sub_self,List.getElem?_replicate,if_pos (by omega)];rfl)
  have HZ0:Hid (icells (List.replicate ns.length 0)=jcells (m0 0)):=Lib.hid (by rw[<-hm0];simp[icells,jcells]);have HZN:Hid (m0 ns.length=List.replicate ns.length (-1)):=Lib.hid (by rw[<-hm0];simp);clear hm0;obtain⟨r2,hr2⟩:∃r2,r 2=r2:=⟨_,rfl⟩
  obtain⟨b2,hb2⟩:∃b2,b 2=b2:=⟨_,rfl⟩
  have HB2:Hid (Blk wc b2 33 #[.slice (some ⟨r2,0,none⟩) ns.length ns.length]/\Blk wc r2 3 (jcells (m0 0))):=Lib.hid (by
   have h1:=(HM.out.box 2 (by omega) rfl).2;have h2:=(HM.out.row 2 (by omega) rfl).2;rw[HZ0.out]at h2;subst hr2;subst hb2;exact⟨by simpa using h1,h2⟩)
  have HRB:=Lib.hid (And.intro hr2 hb2);(try rw[hb2]);clear hr2 hb2;have c0:wc.cell? ⟨b2,0,none⟩=some (.slice (some ⟨r2,0,none⟩) ns.length ns.length):=HB2.out.1.cell 0;have hbr:b2≠r2:=HB2.out.1.ne_ HB2.out.2 (by decide);go_upto_region 4 with fail;clear c0;go_loopw [25] (fun s25 wr=>∃k:Nat,k<=ns.length/\s25=.int .i64 k/\Hid (KB r2 wc wr/\Blk wr r2 3 (jcells (m0 k)))) (fun s25 _=>ns.length-(intOf s25).toNat)
  case atStart=>exact⟨0,by omega,rfl,Lib.hid ⟨KB.refl _ _,HB2.out.2⟩⟩
  case round=>
   obtain⟨k,hk,rfl,HW⟩:=hrel;by_cases hlk:k<ns.length
   ·have hlkI:(k:Int)<(ns.length:Int):=by omega
    have c0:wr.cell? ⟨b2,0,none⟩=some (.slice (some ⟨r2,0,none⟩) ns.length ns.length):=(HW.out.1.blk HB2.out.1 hbr).cell 0;obtain⟨e1,e2,e3⟩:=HM0.out k hlk;have z0:wr.cell? ⟨r2,k,none⟩=some (.int .i64 0):=by rw[HW.out.2.cell,jcells_get (by omega),e3]
    have zf:∀i,wr.frozen? ⟨r2,i,none⟩=false:=HW.out.2.frozen;have HN2:Hid (KB r2 wc (wr.setCell ⟨r2,k,none⟩ (.int .i64 (-1)))/\Blk (wr.setCell ⟨r2,k,none⟩ (.int .i64 (-1))) r2 3 (jcells (m0 (k+1)))):=Lib.hid ⟨HW.out.1.set _ _,by
     rw[<-e1,<-jcells_set];exact HW.out.2.set_ k _⟩
    clear e1 e2 e3 HW;go_wp2_with fail;go_roundw
    case rel=>exact⟨k+1,by omega,by go_num,HN2⟩
    case measure=>simp[intOf];omega
   ·have hlkI:¬((k:Int)<(ns.length:Int)):=by omega
    have HWN:Hid (KB r2 wc wr/\Blk wr r2 3 (jcells (List.replicate ns.length (-1)))):=Lib.hid (by
     have:=HW.out;rw[show k=ns.length from by omega,HZN.out]at this;exact this)
    clear HW;go_upto_region 13 with fail;have hgb:=HGB.out;have hw1s:w1.heap.size=gb+1:=by rw[<-HW1.out,<-hgb];simp
    have l1:Below w.heap.size w w1:=by rw[<-HW1.out];exact(Below.refl _ _).alloc (Nat.le_refl _) _
    have bg1:Blk w1 gb 24 #[.slice A ns.length c,.int .i64 root]:=by rw[<-HW1.out,<-hgb];exact Blk.new _ _ _
    obtain⟨hr2,hb2⟩:=HRB.out;obtain⟨x0,y0⟩:=HM.out.row 0 (by omega) rfl;obtain⟨x1,y1⟩:=HM.out.row 1 (by omega) rfl;obtain⟨x2,y2⟩:=HM.out.row 2 (by omega) rfl;obtain⟨_,z0⟩:=HM.out.box 0 (by omega) rfl;obtain⟨_,z1⟩:=HM.out.box 1 (by omega) rfl;have n01:=HM.out.rr 0 1 (by omega) (by omega) (by omega) rfl rfl;have n02:=HM.out.rr 0 2 (by omega) (by omega) (by omega) rfl rfl;have n12:=HM.out.rr 1 2 (by omega) (by omega) (by omega) rfl rfl;rw[hr2]at x2 y2 n02 n12;have bgc:=bg1.below HM.out.below (by omega);have hkb:=HWN.out.1;have lwr:Below w.heap.size w wr:=(l1.trans (HM.out.below.mono (by omega))).trans (hkb.below (by omega) (by have:=l1.size;have:=HM.out.below.size;omega));have hws:=lwr.size;obtain⟨z,hz⟩:∃z,wr.heap.size=z:=⟨_,rfl⟩
    rw[hz];obtain⟨W,hW⟩:∃W,((((((wr.alloc (.cells #[.slice none 0 0] 33)).alloc (.cells #[.slice none 0 0] 33)).alloc (.cells (bcells (List.replicate ns.length false)) 4)).alloc (.cells #[.slice (some ⟨z+1+1,0,none⟩) ns.length ns.length] 62)).alloc (.cells #[.int .i64 0] 3)).alloc (.cells #[(compL z gb (b 0) (b 1) b2 (r 0) (r 1) r2).fn] 88))=W:=⟨_,rfl⟩
    obtain⟨hT,lW,hWs⟩:=comp_start w.heap.size z gb (b 0) (b 1) b2 (r 0) (r 1) r2 A c root vs ns wr W hz hW
     (hkb.blk (by simpa using z0) (z0.ne_ y2 (by decide))) (hkb.blk (by simpa using z1) (z1.ne_ y2 (by decide))) (hkb.blk HB2.out.1 hbr) (hkb.blk y0 n02) (hkb.blk y1 n12) HWN.out.2
     (hkb.blk bgc (by omega)) n01 n02 n12 (by omega) (by omega) (by omega) (by omega) (H.out.below lwr)
    unfold compL TL.fn at hW;simp only at hW;rw[hW];have HT:=Lib.hid hT;have HLW:=Lib.hid (lwr.trans (lW.mono hws));have v0:W.cell? ⟨z+1+1+1+1+1,0,none⟩=some (compL z gb (b 0) (b 1) b2 (r 0) (r 1) r2).fn:=hT.xV.cell 0;unfold compL TL.fn at v0;simp only at v0;have g1:W.cell? ⟨gb,1,none⟩=some (.int .i64 root):=hT.xG.cell 1;have hC:=tvisit_any (y:=compL z gb (b 0) (b 1) b2 (r 0) (r 1) r2) hr hl hks ns.length (Gr.tzero ns.length) root (fun _=>False) W _ _ hT (Gr.tzero_inv _) hroot (Gr.tzero_ix _ _) (fun g h=>h.elim) (Nat.le_trans List.countP_le_length (by simp));unfold TL.args compL at hC;simp only at hC;have HC:=Lib.hid hC;have HX:Hid (w.heap.size<=r2/\w.heap.size<=z+1+1+1+1+1+1):=Lib.hid ⟨by omega,by omega⟩;clear hW hT hC l1 bg1 y0 y1 y2 z0 z1 bgc hkb lwr lW;go_wp2_with fail;refine HC.out.mono ?_;rintro e w9 ⟨rfl,sv,zv,h9,f9⟩;obtain⟨Az,cz,hzv,_⟩:=h9.siz.form;subst hzv;have q1:w9.cell? ⟨b2,0,none⟩=some (.slice (some ⟨r2,0,none⟩) ns.length ns.length):=h9.xC.cell 0;have q2:w9.cell? ⟨z,0,none⟩=some (.slice Az (Gr.tvisit (Gr.succ ns) ns.length (Gr.tzero ns.length) root).sizes.length cz):=h9.bZ.cell 0;have HFIN:Hid (Below w.heap.size w w9/\Blk w9 r2 3 (jcells (Gr.tcomp (Gr.succ ns) ns.length root).inn)/\OwnRow intL w9 w.heap.size 3 (.slice Az (Gr.tcomp (Gr.succ ns) ns.length root).sizes.length cz) (Gr.tcomp (Gr.succ ns) ns.length root).sizes):=
     Lib.hid ⟨HLW.out.trans (HT.out.tfBelow f9),h9.rC,h9.siz.lower HX.out.2⟩
    clear v0 g1 h9 f9;go_upto_region 14 with fail;go_quiet (fail);go_wp2_with fail;refine bodyPost_ret (v:=.tuple #[.slice (some ⟨r2,0,none⟩) ns.length ns.length,.slice Az (Gr.tvisit (Gr.succ ns) ns.length (Gr.tzero ns.length) root).sizes.length cz]) (by simp[results,Tryz.results65,go_sem]) rfl ?_;exact⟨r2,Az,cz,rfl,HX.out.1,below_drewN HFIN.out.1 _,HFIN.out.2.1.drewN _,HFIN.out.2.2.drewN _⟩
end Go.Proofs.YtoigpackhninoaaGreatDoor
namespace Go.Proofs.YtoigpackhninoaaGreatDoor
open Go.RowKit
theorem infoSl:(Tryz.prog.info? 33).map (fun i=>(i.zero,i.size,i.bytes))=some (some (.slice none 0 0),1,24):=by kernel_rfl
theorem make_slices (n:Nat) (hn:n<=1073741824) (W:World):(Instr.makeSlice 87 (.int .i64 (n:Int)) (.int .i64 (n:Int))).run Tryz.prog W=.ok (.slice (some ⟨W.heap.size,0,none⟩) n n) (W.alloc (.cells (List.replicate n (Value.slice none 0 0)).toArray 33)):=by
 obtain⟨i5,hi5,hz5,hs5,hby5⟩:=info_parts infoSl;have:=run_make_rowN (P:=Tryz.prog) 87 33 i5 _ Tryz.underlying87 hi5 hz5 .i64 .i64 n n (Nat.le_refl _) (by rw[hby5];omega) (by omega) W;rw[hs5]at this;simp only[Value.cells,madeCells_one]at this;exact this
structure Mems (w:World) (D rM:Nat) (mv:List Value) (ml:List (List Nat)):Prop where
 blk:Blk w rM 33 mv.toArray
 lo:rM<D
 hd:D<=w.heap.size
 len:mv.length=ml.length
 own:∀c (h1:c<mv.length) (h2:c<ml.length),OwnRow intL w D 3 mv[c] ml[c]
 ap:∀c c' (h1:c<mv.length) (h2:c'<mv.length),c≠c'->∀k,mv[c].ownBlock=some k->mv[c'].ownBlock≠some k
section
variable {w w' w2:World} {D rM:Nat} {mv:List Value} {ml:List (List Nat)}
theorem Mems.start {m:Nat} (hb:Blk w rM 33 (List.replicate m (Value.slice none 0 0)).toArray) (lo:rM<D) (hd:D<=w.heap.size):Mems w D rM (List.replicate m (.slice none 0 0)) (List.replicate m []):=
 ⟨hb,lo,hd,by simp,fun c h1 h2=>by simp only[List.getElem_replicate];exact OwnRow.nil,fun c c' h1 h2 _ k e=>by simp only[List.getElem_replicate]at e;cases e⟩
theorem Mems.later (h:Mems w D rM mv ml) (hb:Below w.heap.size w w'):Mems w' D rM mv ml:=
 ⟨h.blk.below hb h.blk.lt,h.lo,Nat.le_trans h.hd hb.size,h.len,fun c h1 h2=>(h.own c h1 h2).later hb,h.ap⟩
theorem Mems.alloc (h:Mems w D rM mv ml) (o:Obj):Mems (w.alloc o) D rM mv ml:=h.later ((Below.refl _ _).alloc (Nat.le_refl _) o)
theorem Mems.kb {g:Nat} (h:Mems w D rM mv ml) (hk:KB g w w') (hg:g<D) (hne:g≠rM):Mems w' D rM mv ml:=by
 refine⟨hk.blk h.blk (Ne.symm hne),h.lo,Nat.le_trans h.hd hk.size,h.len,fun c h1 h2=>?_,h.ap⟩;have ho:=h.own c h1 h2;have hlt:=ho.lt;refine⟨ho.1,ho.2.imp id ?_⟩;rintro⟨g',cap,cur,hv,hge,hh,r⟩;have e:mv[c].ownBlock=some g':=by rw[hv];rfl
 have:=hlt g' e;exact⟨g',cap,cur,hv,hge,(hk.block g' (by omega) (by omega)).trans hh,r⟩
theorem Mems.grown (h:Mems w D rM mv ml) {c:Nat} (hc:c<mv.length) {v2:Value} {l:List Nat} (ho:OwnRow intL w2 D 3 v2 l) (hg:w.grownBy w2 (mv[c]).ownBlock) (hat:v2.ownBlock=(mv[c]).ownBlock\/v2.ownBlock=some w.heap.size):
 Mems (w2.setCell ⟨rM,c,none⟩ v2) D rM (mv.set c v2) (ml.set c l):=by
 have hcl:c<ml.length:=by rw[<-h.len];exact hc
 have hlo:=h.lo;have hsz:=hg.size;have hb2:Blk w2 rM 33 mv.toArray:=h.blk.grown hg (fun e=>by have:=((h.own c hc hcl).lt rM e.symm).1;omega);have hap:∀c' (h1:c'<mv.length),c'≠c->∀k,v2.ownBlock=some k->mv[c'].ownBlock≠some k:=by
  intro c' h1 hne k e e2;rcases hat with h3|h3
  ·exact h.ap c' c h1 hc hne k e2 (h3.symm.trans e)
  ·have:=((h.own c' h1 (by rw[<-h.len];exact h1)).lt k e2).2;rw[h3]at e;injection e with e;omega
 refine⟨?_,hlo,?_,by simp[h.len],?_,?_⟩
 ·have:=hb2.set_ c v2;simpa using this
 ·have:=h.hd;simp[World.setCell];omega
 ·intro c' h1 h2;simp only[List.length_set]at h1 h2;by_cases hcc:c'=c
  ·subst hcc;simp only[List.getElem_set_self];exact ho.setCell (p:=⟨rM,c',none⟩) (fun e=>by have:=(ho.lt _ e).1;simp only at this;omega) _
  ·simp only[List.getElem_set_ne (Ne.symm hcc)];have h3:=h.own c' h1 h2;have h4:=h3.off hg (fun k e e2=>h.ap c' c h1 hc hcc k e e2.symm);exact h4.setCell (p:=⟨rM,c,none⟩) (fun e=>by have:=(h3.lt _ e).1;simp only at this;omega) _
 ·intro c1 c2 h1 h2 hne k e;simp only[List.length_set]at h1 h2;by_cases h3:c1=c
  ·subst h3;simp only[List.getElem_set_self]at e;simp only[List.getElem_set_ne hne];exact hap c2 (by simpa using h2) (Ne.symm hne) k e
  ·simp only[List.getElem_set_ne (Ne.symm h3)]at e;by_cases h4:c2=c
   ·subst h4;simp only[List.getElem_set_self];exact fun e2=>hap c1 (by simpa using h1) h3 k e2 e
   ·simp only[List.getElem_set_ne (Ne.symm h4)];exact h.ap c1 c2 h1 h2 hne k e
theorem Mems.grownKB {w4:World} (h:Mems w D rM mv ml) (hk:KB rM w4 w) (hD:w4.heap.size=D) {c:Nat} (hc:c<mv.length) (v2:Value) (hg:w.grownBy w2 (mv[c]).ownBlock):
 KB rM w4 (w2.setCell ⟨rM,c,none⟩ v2):=by
 have hcl:c<ml.length:=by rw[<-h.len];exact hc
 have hb:Below D w w2:=(h.own c hc hcl).grown_below hg h.hd;refine KB.set ⟨hb.os.trans hk.os,hb.tape.trans hk.tape,hb.output.trans hk.output,Nat.le_trans hk.size hb.size,fun k h1 h2=>(hb.block k (by omega)).trans (hk.block k h1 h2)⟩ _ _
theorem Mems.at_ (h:Mems w D rM mv ml) {c:Nat} (hc:c<ml.length):∃A cap,mv[c]? =some (.slice A (ml[c]).length cap)/\w.cell? ⟨rM,c,none⟩=some (.slice A (ml[c]).length cap)/\RowAt intL w w.heap.size A ml[c]:=by
 have hcv:c<mv.length:=by rw[h.len];exact hc
 obtain⟨A,cap,hv,hr⟩:=(h.own c hcv hc).form;refine⟨A,cap,by rw[List.getElem?_eq_getElem hcv,hv],?_,hr⟩;rw[h.blk.cell];simp[List.getElem?_eq_getElem hcv,hv]
theorem Mems.row (h:Mems w D rM mv ml) {c:Nat} (hc:c<ml.length) {A:Option Addr} {n cap:Nat} (e:mv[c]? =some (.slice A n cap)):RowAt intL w w.heap.size A ml[c]:=by
 obtain⟨A',cap',h1,_,h2⟩:=h.at_ hc;rw[h1]at e;injection e with e
 injection e with e _ _
 subst e;exact h2
end
theorem members_succ (inn:Nat->Int) (i c:Nat):Gr.members inn (i+1) c=if inn i=(c:Int)then Gr.members inn i c++[i]else Gr.members inn i c:=by
 unfold Gr.members;rw[List.range_succ,List.filter_append];by_cases h:inn i=(c:Int)<;>simp[h]
def memsL (inn:Nat->Int) (i m:Nat):List (List Nat):=(List.range m).map (fun c=>Gr.members inn i c)
theorem memsL_len (inn:Nat->Int) (i m:Nat):(memsL inn i m).length=m:=by simp[memsL]
theorem memsL_zero (inn:Nat->Int) (m:Nat):memsL inn 0 m=List.replicate m []:=by
 unfold memsL;apply List.ext_getElem
 ·simp
 ·intro i h1 h2;simp[Gr.members]
theorem memsL_get (inn:Nat->Int) (i m c:Nat) (h:c<(memsL inn i m).length):(memsL inn i m)[c]=Gr.members inn i c:=by simp[memsL]
theorem memsL_succ (inn:Nat->Int) (i m c:Nat) (h:inn i=(c:Int)):memsL inn (i+1) m=(memsL inn i m).set c (Gr.members inn i c++[i]):=by
 apply List.ext_getElem
 ·simp[memsL]
 ·intro k h1 h2;rw[memsL_get,members_succ];by_cases hk:k=c
  ·subst hk;rw[List.getElem_set_self,if_pos h]
  ·rw[List.getElem_set_ne (Ne.symm hk),if_neg (by omega),memsL_get]
theorem members_len (inn:Nat->Int) (i c:Nat):(Gr.members inn i c).length<=i:=by
 unfold Gr.members;exact Nat.le_trans (List.length_filter_le _ _) (by simp)
theorem members_lt (inn:Nat->Int) (n c:Nat):∀x∈Gr.members inn n c,x<n:=by
 intro x hx;unfold Gr.members at hx;exact List.mem_range.1 (List.mem_filter.1 hx).1
def Sml (M:Nat) (p:List Nat×Bool):Prop:=∀k,p.1.getD k 0<=M
theorem Sml.step {M:Nat} {inn:Nat->Int} {c:Nat} {p:List Nat×Bool} (h:Sml M p) (x:Nat):Sml M (Gr.dstep inn c p x):=by
 unfold Gr.dstep;split
 ·exact h
 ·intro k;show(p.1.set c _).getD k 0<=M;by_cases hk:c=k
  ·subst hk;by_cases hl:c<p.1.length
   ·rw[Gr.getD_set_self _ _ _ _ hl];have:=h c;have:=h (inn x).toNat;omega
   ·rw[List.set_eq_of_length_le (by omega)];exact h c
  ·rw[Gr.getD_set_ne _ _ _ _ _ hk];exact h k
theorem Sml.fold {M:Nat} {inn:Nat->Int} {c:Nat} (L:List Nat):∀{p:List Nat×Bool},Sml M p->Sml M (L.foldl (Gr.dstep inn c) p):=by
 induction L with
 |nil=>intro p h;exact h
 |cons x L ih=>intro p h;rw[List.foldl_cons];exact ih (h.step x)
theorem Sml.foldM {M:Nat} {inn:Nat->Int} {c:Nat} (sc:Nat->List Nat) (L:List Nat):∀{p:List Nat×Bool},Sml M p->Sml M (L.foldl (fun p i=>(sc i).foldl (Gr.dstep inn c) p) p):=by
 induction L with
 |nil=>intro p h;exact h
 |cons x L ih=>intro p h;rw[List.foldl_cons];exact ih (h.fold _)
theorem dstep_len (inn:Nat->Int) (c:Nat) (p:List Nat×Bool) (x:Nat):(Gr.dstep inn c p x).1.length=p.1.length:=by
 unfold Gr.dstep;split<;>simp
theorem dfold_len (inn:Nat->Int) (c:Nat) (L:List Nat):∀p:List Nat×Bool,(L.foldl (Gr.dstep inn c) p).1.length=p.1.length:=by
 induction L with
 |nil=>intro p;rfl
 |cons x L ih=>intro p;rw[List.foldl_cons,ih,dstep_len]
theorem dfoldM_len (inn:Nat->Int) (c:Nat) (sc:Nat->List Nat) (L:List Nat):∀p:List Nat×Bool,(L.foldl (fun p i=>(sc i).foldl (Gr.dstep inn c) p) p).1.length=p.1.length:=by
 induction L with
 |nil=>intro p;rfl
 |cons x L ih=>intro p;rw[List.foldl_cons,ih,dfold_len]
theorem dcomp_len (sc:Nat->List Nat) (inn:Nat->Int) (n:Nat) (sizes:List Nat) (p:List Nat×Bool) (c:Nat):(Gr.dcomp sc inn n sizes p c).1.length=p.1.length:=by
 unfold Gr.dcomp;simp[dfoldM_len]
theorem dcomps_len (sc:Nat->List Nat) (inn:Nat->Int) (n:Nat) (sizes:List Nat) (L:List Nat):∀p:List Nat×Bool,(L.foldl (Gr.dcomp sc inn n sizes) p).1.length=p.1.length:=by
 induction L with
 |nil=>intro p;rfl
 |cons x L ih=>intro p;rw[List.foldl_cons,ih,dcomp_len]
theorem Sml.comp {M N:Nat} {sc:Nat->List Nat} {inn:Nat->Int} {n:Nat} {sizes:List Nat} {p:List Nat×Bool} (h:Sml M p) (c:Nat) (hN:∀k,sizes.getD k 0<=N):Sml (M+N) (Gr.dcomp sc inn n sizes p c):=by
 unfold Gr.dcomp;have h1:=h.foldM (inn:=inn) (c:=c) sc (Gr.members inn n c);obtain⟨q,hq⟩:∃q,(Gr.members inn n c).foldl (fun p i=>(sc i).foldl (Gr.dstep inn c) p) p=q:=⟨_,rfl⟩
 rw[hq]at h1;rw[hq];intro k;show(q.1.set c _).getD k 0<=_;have:=h1 k;by_cases hk:c=k
 ·subst hk;by_cases hl:c<q.1.length
  ·rw[Gr.getD_set_self _ _ _ _ hl];have:=hN c;omega
  ·rw[List.set_eq_of_length_le (by omega)];omega
 ·rw[Gr.getD_set_ne _ _ _ _ _ hk];omega
theorem Sml.comps {N:Nat} {sc:Nat->List Nat} {inn:Nat->Int} {n:Nat} {sizes:List Nat} {p:List Nat×Bool} (h:Sml 0 p) (hN:∀k,sizes.getD k 0<=N) (k:Nat):Sml (k*N) ((List.range k).foldl (Gr.dcomp sc inn n sizes) p):=by
 induction k with
 |zero=>simpa using h
 |succ k ih=>
  rw[List.range_succ,List.foldl_append,Nat.add_mul,Nat.one_mul];exact ih.comp k hN
end Go.Proofs.YtoigpackhninoaaGreatDoor
namespace Go.Proofs.YtoigpackhninoaaGreatDoor
set_option maxRecDepth 100000
set_option maxHeartbeats 16000000
open Go.RowKit
theorem rep48 (n:Nat):Lib.repeatL [48] n=List.replicate n (48:UInt8):=by
 induction n with
 |zero=>rfl
 |succ n ih=>
  show[48]++Lib.repeatL [48] n=_;rw[ih];rfl
theorem ppad_any (x n:Nat) (i j:Int) (hi:i=(x:Int)) (hj:j=(n:Int)) (h1:1<=n) (hn:n<=9) (hx:x<10 ^ n) (w:World) (hT:UT w):
 Calls Tryz.prog 160 #[.int .i64 i,.int .i64 j] w fun e w'=>e=.returned (.string ⟨(Gr.pd n x).toArray⟩)/\Below w.heap.size w w':=by
 subst hi;subst hj;have hx9:x<1000000000:=Nat.lt_of_lt_of_le hx (Nat.pow_le_pow_right (n:=10) (by omega) (show n<=9 by omega));have hlen:(Lib.decDigits x).length<=n:=by rw[Lib.decDigits_length];exact Nat.le_of_succ_le_succ (by have:=Gr.nDigits_le (n-1) x (by rwa[show n-1+1=n from by omega]);omega)
 have HI:=Lib.hid (fun(W:World) (hW:UT W)=>itoa_any (x:Int) (by omega) (by omega) W hW);rw[Gr.itoa_nat]at HI;have HPD:=Lib.hid (Gr.pd_dec n x h1 hx);obtain⟨d,hd⟩:∃d,Lib.decDigits x=d:=⟨_,rfl⟩
 rw[hd]at HI HPD hlen;obtain⟨r,hr⟩:∃r,Gr.pd n x=r:=⟨_,rfl⟩
 rw[hr]at HPD ⊢;obtain⟨z,hz⟩:∃z,List.replicate (n-d.length) (48:UInt8)=z:=⟨_,rfl⟩
 have hzl:z.length<=9:=by rw[<-hz];simp;omega
 have HRP:Hid (∀W,Calls Tryz.prog 184 #[.string ⟨#[48]⟩,.int .i64 ((n-d.length:Nat):Int)] W fun e w'=>e=.returned (.string ⟨z.toArray⟩)/\Below W.heap.size W w'):=Lib.hid (fun W=>by
  have:=Tryz.strings_Repeat ⟨#[48]⟩ (n-d.length) W (by omega) (by show 1*(n-d.length)<=_;omega);rw[show(⟨#[48]⟩:ByteArray).data.toList=[48]from rfl,rep48,hz]at this;exact this)
 rw[hz]at HPD;have hmx:((n-d.length:Nat):Int)=max 0 ((n:Int)-(d.length:Int)):=by omega
 rw[hmx]at HRP;have hm0:0<=(n:Int)-(d.length:Int):=by omega
 have hadd:=fun W=>add_run z d (by omega) W
 rw[HPD.out]at hadd;have HTW:=Lib.hid hT;clear hd hr hz hmx hT hx;go_enter Tryz.func160,Tryz.ntmps160;go_wp2_with fail;refine(HI.out _ HTW.out).mono ?_;rintro e w1 ⟨rfl,hb1⟩;have HB1:=Lib.hid hb1;clear hb1;go_wp2_with fail;refine(HRP.out _).mono ?_;rintro e w2 ⟨rfl,hb2⟩;have HB2:Hid (Below w.heap.size w w2):=Lib.hid (HB1.out.trans (hb2.mono HB1.out.size));clear hb2;go_wp2_with fail;go_ret;exact⟨rfl,HB2.out⟩
end Go.Proofs.YtoigpackhninoaaGreatDoor

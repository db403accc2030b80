import Derived.Test.YtpgmfihonmoliaaGreatDoorZ09
import Derived.Test.YtpgmfihonmoliaaGreatDoorZ11
import Derived.Test.YtpgmfihonmoliaaGreatDoorZ19
import Derived.Test.YtpgmfihonmoliaaGreatDoorGrInsR12
namespace Go.Proofs.YtpgmfihonmoliaaGreatDoor
open Go.RowKit
def compL (z gb b0 b1 b2 r0 r1 r2:Nat):TL:=⟨z+1+1+1+1,b0,b1,z+1,z+1+1+1,z+1+1+1+1+1,gb,z,b2,r0,r1,r2,z+1+1⟩
theorem zlx (B z gb b0 b1 b2 r0 r1 r2:Nat) (A:Option Addr) (c:Nat) (root:Int) (vs:List NV) (ns:List Gr.Nd) (wr W:World) (hz:wr.heap.size=z)
 (hW:((((((wr.alloc (.cells #[.slice none 0 0] 36)).alloc (.cells #[.slice none 0 0] 36)).alloc (.cells (bcells (List.replicate ns.length false)) 4)).alloc (.cells #[.slice (some ⟨z+1+1,0,none⟩) ns.length ns.length] 51)).alloc (.cells #[.int .i64 0] 3)).alloc (.cells #[(compL z gb b0 b1 b2 r0 r1 r2).fn] 74))=W)
 (hI:Blk wr b0 36 #[.slice (some ⟨r0,0,none⟩) ns.length ns.length]) (hL:Blk wr b1 36 #[.slice (some ⟨r1,0,none⟩) ns.length ns.length]) (hC:Blk wr b2 36 #[.slice (some ⟨r2,0,none⟩) ns.length ns.length])
 (hrI:Blk wr r0 3 (icells (List.replicate ns.length 0))) (hrL:Blk wr r1 3 (icells (List.replicate ns.length 0))) (hrC:Blk wr r2 3 (jcells (List.replicate ns.length (-1))))
 (hG:Blk wr gb 24 #[.slice A ns.length c,.int .i64 root]) (h01:r0≠r1) (h02:r0≠r2) (h12:r1≠r2) (hB:B<=z) (hB0:B<=r0) (hB1:B<=r1) (hB2:B<=r2) (hat:GAt wr B A vs ns):
 TAt (compL z gb b0 b1 b2 r0 r1 r2) B (z+1+1+1+1+1+1) A c root vs ns W (Gr.tzero ns.length) (.slice none 0 0) (.slice none 0 0)/\Below wr.heap.size wr W/\W.heap.size=z+1+1+1+1+1+1:=by
 have l:Below wr.heap.size wr W:=by rw[<-hW];exact((((((Below.refl _ _).alloc (Nat.le_refl _) _).alloc (by simp) _).alloc (by simp;omega) _).alloc (by simp;omega) _).alloc (by simp;omega) _).alloc (by simp;omega) _
 have p:W.heap.size=z+1+1+1+1+1+1:=by rw[<-hW];simp[hz]
 have h:=hI.lt;have i:=hL.lt;have o:=hC.lt;have b:=hrI.lt;have a:=hrL.lt;have m:=hrC.lt;have f:Blk W z 36 #[.slice none 0 0]:=by rw[<-hW,<-hz];exact(((((Blk.new _ _ _).alloc _).alloc _).alloc _).alloc _).alloc _
 have q:Blk W (z+1) 36 #[.slice none 0 0]:=by
  rw[<-hW];have:=Blk.new (wr.alloc (.cells #[.slice none 0 0] 36)) 36 #[.slice none 0 0];rw[World.size_alloc,hz]at this;exact(((this.alloc _).alloc _).alloc _).alloc _
 have j:Blk W (z+1+1) 4 (bcells (List.replicate ns.length false)):=by
  rw[<-hW];have:=Blk.new ((wr.alloc (.cells #[.slice none 0 0] 36)).alloc (.cells #[.slice none 0 0] 36)) 4 (bcells (List.replicate ns.length false));simp only[World.size_alloc,hz]at this;exact(((this.alloc _).alloc _).alloc _)
 have g:Blk W (z+1+1+1) 51 #[.slice (some ⟨z+1+1,0,none⟩) ns.length ns.length]:=by
  rw[<-hW];have:=Blk.new (((wr.alloc (.cells #[.slice none 0 0] 36)).alloc (.cells #[.slice none 0 0] 36)).alloc (.cells (bcells (List.replicate ns.length false)) 4)) 51 #[.slice (some ⟨z+1+1,0,none⟩) ns.length ns.length];simp only[World.size_alloc,hz]at this;exact((this.alloc _).alloc _)
 have n:Blk W (z+1+1+1+1) 3 #[.int .i64 0]:=by
  rw[<-hW];have:=Blk.new ((((wr.alloc (.cells #[.slice none 0 0] 36)).alloc (.cells #[.slice none 0 0] 36)).alloc (.cells (bcells (List.replicate ns.length false)) 4)).alloc (.cells #[.slice (some ⟨z+1+1,0,none⟩) ns.length ns.length] 51)) 3 #[.int .i64 0];simp only[World.size_alloc,hz]at this;exact(this.alloc _)
 have d:Blk W (z+1+1+1+1+1) 74 #[(compL z gb b0 b1 b2 r0 r1 r2).fn]:=by
  rw[<-hW];have:=Blk.new (((((wr.alloc (.cells #[.slice none 0 0] 36)).alloc (.cells #[.slice none 0 0] 36)).alloc (.cells (bcells (List.replicate ns.length false)) 4)).alloc (.cells #[.slice (some ⟨z+1+1,0,none⟩) ns.length ns.length] 51)).alloc (.cells #[.int .i64 0] 3)) 74 #[(compL z gb b0 b1 b2 r0 r1 r2).fn];simp only[World.size_alloc,hz]at this;exact this
 refine⟨⟨⟨?_,?_,?_,h01,h02,h12,?_,?_,?_,?_,?_,?_,?_,?_,?_,?_,?_,?_,?_,?_,?_⟩,by omega,hI.below l h,hL.below l i,hC.below l o,g,d,hG.below l hG.lt,hat.below (l.mono (by omega)),n,q,f,hrI.below l b,hrL.below l a,hrC.below l m,j,OwnRow.nil,OwnRow.nil,fun k e=>by cases e⟩,l,p⟩
 all_goals (simp only[compL];omega)
open Gr
open _root_.Go.Proofs.Tryz
open _root_.Go.Lib (hid)
set_option maxRecDepth 100000
set_option maxHeartbeats 16000000
structure Mk3 (n:Nat) (w1 W:World) (f:Nat->Bool) (r b:Nat->Nat):Prop where
 below:Below w1.heap.size w1 W
 row:∀j,j<3->f (2*j+1)=true->w1.heap.size<=r j/\Blk W (r j) 3 (icells (List.replicate n 0))
 box:∀j,j<3->f (6+j)=true->w1.heap.size<=b j/\Blk W (b j) 36 #[if f (9+j)then .slice (some ⟨r j,0,none⟩) n n else .slice none 0 0]
 rr:∀j k,j<3->k<3->j≠k->f (2*j+1)=true->f (2*k+1)=true->r j≠r k
 bb:∀j k,j<3->k<3->j≠k->f (6+j)=true->f (6+k)=true->b j≠b k
def upd {α:Type} (f:Nat->α) (i:Nat) (x:α):Nat->α:=fun k=>if k=i then x else f k
theorem Mk3.start (n:Nat) (w1:World) (r b:Nat->Nat):Mk3 n w1 w1.drew (fun _=>false) r b:=
 ⟨below_drewN (Below.refl _ _) 1,fun _ _ h=>by(cases h),fun _ _ h=>by(cases h),fun _ _ _ _ _ h=>by(cases h),fun _ _ _ _ _ h=>by(cases h)⟩
variable {n:Nat} {w1 W:World} {f:Nat->Bool} {r b:Nat->Nat}
theorem Mk3.mark (h:Mk3 n w1 W f r b) (i:Nat) (hi:i=0\/i=2\/i=4):Mk3 n w1 W (upd f i true) r b:=by
 have e:∀k,k≠i->upd f i true k=f k:=fun k c=>by unfold upd;rw[if_neg c]
 refine⟨h.below,fun j a=>?_,fun j a=>?_,fun j k a c=>?_,fun j k a c=>?_⟩
 .rw[e _ (by omega)];exact h.row j a
 .rw[e _ (by omega),e _ (by omega)];exact h.box j a
 .rw[e _ (by omega),e _ (by omega)];exact h.rr j k a c
 .rw[e _ (by omega),e _ (by omega)];exact h.bb j k a c
theorem Mk3.make (h:Mk3 n w1 W f r b) (j0:Nat) (hj0:j0<3) (hs:f (9+j0)=false):Mk3 n w1 (W.alloc (.cells (icells (List.replicate n 0)) 3)) (upd f (2*j0+1) true) (upd r j0 W.heap.size) b:=by
 have e:∀k,k≠2*j0+1->upd f (2*j0+1) true k=f k:=fun k a=>by unfold upd;rw[if_neg a]
 have l:∀k,k≠j0->upd r j0 W.heap.size k=r k:=fun k a=>by unfold upd;rw[if_neg a]
 have g:upd r j0 W.heap.size j0=W.heap.size:=by unfold upd;rw[if_pos rfl]
 have m:=h.below.size;refine⟨h.below.alloc m _,fun j c d=>?_,fun j c=>?_,fun j k c a p d o=>?_,fun j k c a=>?_⟩
 .by_cases hjj:j=j0
  .subst hjj;rw[g];exact⟨m,Blk.new _ _ _⟩
  .rw[e _ (by omega)]at d;rw[l _ hjj];obtain⟨q,i⟩:=h.row j c d;exact⟨q,i.alloc _⟩
 .rw[e _ (by omega),e _ (by omega)];intro d;obtain⟨q,i⟩:=h.box j c d;refine⟨q,?_⟩;by_cases hjj:j=j0
  .subst hjj;rw[hs]at i ⊢;exact i.alloc _
  .rw[l _ hjj];exact i.alloc _
 .by_cases hjj:j=j0
  .subst hjj;rw[g,l k (by omega)];rw[e _ (by omega)]at o;have:=(h.row k a o).2.lt;omega
  .rw[e _ (by omega)]at d;rw[l j hjj];by_cases hkk:k=j0
   .subst hkk;rw[g];have:=(h.row j c d).2.lt;omega
   .rw[e _ (by omega)]at o;rw[l k hkk];exact h.rr j k c a p d o
 .rw[e _ (by omega),e _ (by omega)];exact h.bb j k c a
theorem Mk3.boxed (h:Mk3 n w1 W f r b) (j0:Nat) (hj0:j0<3) (hs:f (9+j0)=false):Mk3 n w1 (W.alloc (.cells #[.slice none 0 0] 36)) (upd f (6+j0) true) r (upd b j0 W.heap.size):=by
 have e:∀k,k≠6+j0->upd f (6+j0) true k=f k:=fun k a=>by unfold upd;rw[if_neg a]
 have m:∀k,k≠j0->upd b j0 W.heap.size k=b k:=fun k a=>by unfold upd;rw[if_neg a]
 have g:upd b j0 W.heap.size j0=W.heap.size:=by unfold upd;rw[if_pos rfl]
 have i:=h.below.size;refine⟨h.below.alloc i _,fun j c=>?_,fun j c d=>?_,fun j k c a=>?_,fun j k c a o d l=>?_⟩
 .rw[e _ (by omega)];intro d;obtain⟨q,p⟩:=h.row j c d;exact⟨q,p.alloc _⟩
 .rw[e (9+j) (by omega)];by_cases hjj:j=j0
  .subst hjj;rw[g,hs];exact⟨i,Blk.new _ _ _⟩
  .rw[e _ (by omega)]at d;rw[m _ hjj];obtain⟨q,p⟩:=h.box j c d;exact⟨q,p.alloc _⟩
 .rw[e _ (by omega),e _ (by omega)];exact h.rr j k c a
 .by_cases hjj:j=j0
  .subst hjj;rw[g,m k (by omega)];rw[e _ (by omega)]at l;have:=(h.box k a l).2.lt;omega
  .rw[e _ (by omega)]at d;rw[m j hjj];by_cases hkk:k=j0
   .subst hkk;rw[g];have:=(h.box j c d).2.lt;omega
   .rw[e _ (by omega)]at l;rw[m k hkk];exact h.bb j k c a o d l
theorem Mk3.fill (h:Mk3 n w1 W f r b) (j0:Nat) (hj0:j0<3) (hb:f (6+j0)=true):Mk3 n w1 (W.setCell ⟨b j0,0,none⟩ (.slice (some ⟨r j0,0,none⟩) n n)) (upd f (9+j0) true) r b:=by
 have e:∀k,k≠9+j0->upd f (9+j0) true k=f k:=fun k c=>by unfold upd;rw[if_neg c]
 have o:upd f (9+j0) true (9+j0)=true:=by unfold upd;rw[if_pos rfl]
 obtain⟨m,l⟩:=h.box j0 hj0 hb;refine⟨h.below.setCell (p:=⟨b j0,0,none⟩) m _,fun j a=>?_,fun j a d=>?_,fun j k a c=>?_,fun j k a c=>?_⟩
 .rw[e _ (by omega)];intro d;obtain⟨i,g⟩:=h.row j a d;exact⟨i,g.far (g.ne_ l (by decide)) _⟩
 .rw[e (6+j) (by omega)]at d;obtain⟨i,g⟩:=h.box j a d;refine⟨i,?_⟩;by_cases hjj:j=j0
  .subst hjj;rw[o,if_pos rfl];exact l.set_ 0 _
  .rw[e (9+j) (by omega)];exact g.far (h.bb j j0 a hj0 hjj d hb) _
 .rw[e _ (by omega),e _ (by omega)];exact h.rr j k a c
 .rw[e _ (by omega),e _ (by omega)];exact h.bb j k a c
def left12 (f:Nat->Bool):Nat:=cond (f 0) 0 1+cond (f 1) 0 1+cond (f 2) 0 1+cond (f 3) 0 1+cond (f 4) 0 1+cond (f 5) 0 1+cond (f 6) 0 1+cond (f 7) 0 1+cond (f 8) 0 1+cond (f 9) 0 1+cond (f 10) 0 1+cond (f 11) 0 1
theorem zaq (f:Nat->Bool) (i:Nat) (hi:i<12) (h:f i=false):left12 f=left12 (upd f i true)+1:=by
 unfold left12 upd;obtain rfl|rfl|rfl|rfl|rfl|rfl|rfl|rfl|rfl|rfl|rfl|rfl:i=0\/i=1\/i=2\/i=3\/i=4\/i=5\/i=6\/i=7\/i=8\/i=9\/i=10\/i=11:=by omega
 all_goals
  simp only[h,if_true,cond_true,cond_false];simp
  try omega
theorem zfn (A:Option Addr) (c root:Nat) (vs:List NV) (ns:List Gr.Nd) (hr:Refs ns) (hl:ns.length<=1073741823) (hks:∀n∈ns,n.keys.length<=1073741823/\n.items.length<=1073741823) (hroot:root<ns.length)
 (w:World) (h:GAt w w.heap.size A vs ns):
 Calls prog 47 #[.agg #[.slice A ns.length c,.int .i64 root]] w fun e w'=>∃rC Az cz,e=.returned (.tuple #[.slice (some ⟨rC,0,none⟩) ns.length ns.length,.slice Az (tcomp (Gr.succ ns) ns.length root).sizes.length cz])/\w.heap.size<=rC/\Below w.heap.size w w'/\
  Blk w' rC 3 (jcells (tcomp (Gr.succ ns) ns.length root).inn)/\OwnRow intL w' w.heap.size 3 (.slice Az (tcomp (Gr.succ ns) ns.length root).sizes.length cz) (tcomp (Gr.succ ns) ns.length root).sizes:=by
 have H:=hid h;have ac:=fun W=>za3 ns.length (by omega) W
 have hmb:=fun W=>zbm ns.length (by omega) W
 have hrI:(root:Int)<(ns.length:Int):=by omega
 clear h;go_enter func47,ntmps47;go_upto_region 2 with fail;obtain⟨w1,ad⟩:=ex (w.alloc (.cells #[.slice A ns.length c,.int .i64 root] 24))
 (try rw[ad]);have af:=hid ad;obtain⟨V,O⟩:=ex w.heap.size
 (try rw[O]);have ap:=hid O;clear ad O;go_cut [5,6,7] (fun s5 s6 s7 wx=>∃r b:Nat->Nat,s5=.pointer (some ⟨b 0,0,none⟩)/\s6=.pointer (some ⟨b 1,0,none⟩)/\s7=.pointer (some ⟨b 2,0,none⟩)/\Hid (Mk3 ns.length w1 wx (fun _=>true) r b))
 case first=>
  refine wp_region_any (by kernel_rfl) ?_;refine zly (fun m t a' w'=>∃(f:Nat->Bool) (r b:Nat->Nat) (x17 x18 x19 x20 x21 x22 p5 p6 p7:Value),t=#[f 0,f 1,f 2,f 3,f 4,f 5,f 6,f 7,f 8,f 9,f 10,f 11]/\m=left12 f/\Hid (Mk3 ns.length w1 w' f r b)/\(f 0=true->x17=.int .i64 ns.length)/\(f 1=true->x18=.slice (some ⟨r 0,0,none⟩) ns.length ns.length)/\(f 6=true->p5=.pointer (some ⟨b 0,0,none⟩))/\(f 9=true->f 1=true/\f 6=true)/\(f 2=true->x19=.int .i64 ns.length)/\(f 3=true->x20=.slice (some ⟨r 1,0,none⟩) ns.length ns.length)/\(f 7=true->p6=.pointer (some ⟨b 1,0,none⟩))/\(f 10=true->f 3=true/\f 7=true)/\(f 4=true->x21=.int .i64 ns.length)/\(f 5=true->x22=.slice (some ⟨r 2,0,none⟩) ns.length ns.length)/\(f 8=true->p7=.pointer (some ⟨b 2,0,none⟩))/\(f 11=true->f 5=true/\f 8=true)/\a'={tmps:=List.toArray (.agg #[.slice A ns.length c,.int .i64 root]::.pointer (some ⟨V,0,none⟩)::.slice none 0 0::.slice none 0 0::.int .i64 ns.length::p5::p6::p7::undef::undef::undef::undef::undef::undef::.pointer (some ⟨V,0,none⟩)::.slice A ns.length c::.int .i64 ns.length::x17::x18::x19::x20::x21::x22::undef::undef::undef::undef::undef::undef::undef::undef::undef::undef::undef::undef::undef::undef::undef::undef::undef::undef::[]),defers:=[]}) ?step ?fin _ _ _ _ ?start
  case start=>
   exact⟨fun _=>false,fun _=>0,fun _=>0,undef,undef,undef,undef,undef,undef,undef,undef,undef,rfl,rfl,hid (Mk3.start _ _ _ _),fun h=>(by cases h),fun h=>(by cases h),fun h=>(by cases h),fun h=>(by cases h),fun h=>(by cases h),fun h=>(by cases h),fun h=>(by cases h),fun h=>(by cases h),fun h=>(by cases h),fun h=>(by cases h),fun h=>(by cases h),fun h=>(by cases h),rfl⟩
  case step=>
   rintro m t a' w' i ⟨f,r,b,x17,x18,x19,x20,x21,x22,p5,p6,p7,rfl,rfl,d,l,E,D,s0,J,I,B,s1,K,G,C,s2,rfl⟩ hi;rw[mem_ready]at hi;obtain⟨q,o,N,U⟩:=hi;have hi12:i<12:=(Array.getElem?_eq_some_iff.1 N).1;obtain rfl|rfl|rfl|rfl|rfl|rfl|rfl|rfl|rfl|rfl|rfl|rfl:i=0\/i=1\/i=2\/i=3\/i=4\/i=5\/i=6\/i=7\/i=8\/i=9\/i=10\/i=11:=by omega
   .have a:f 0=false:=by simpa using q
    obtain rfl:=Option.some.inj (show some _=some o from N);exact⟨left12 (upd f 0 true),zaq f 0 (by omega) a,zbk (.int .i64 ns.length) rfl rfl (by simp[execOp,go_sem]) ⟨upd f 0 true,r,b,.int .i64 ns.length,x18,x19,x20,x21,x22,p5,p6,p7,rfl,rfl,hid (d.out.mark 0 (by omega)),fun _=>rfl,E,D,s0,J,I,B,s1,K,G,C,s2,rfl⟩⟩
   .have a:f 1=false:=by simpa using q
    obtain rfl:=Option.some.inj (show some _=some o from N);have d0:f 0=true:=by simpa using U ⟨0,.data⟩ (by simp) rfl
    have T:=l d0;subst T;have R:f 9=false:=by cases hq:f 9 with|false=>rfl|true=>rw[(s0 hq).1]at a;cases a
    exact⟨left12 (upd f 1 true),zaq f 1 (by omega) a,zbk (.slice (some ⟨w'.heap.size,0,none⟩) ns.length ns.length) rfl rfl (by simp[execOp,go_sem,ac]) ⟨upd f 1 true,upd r 0 w'.heap.size,b,.int .i64 ns.length,(.slice (some ⟨w'.heap.size,0,none⟩) ns.length ns.length),x19,x20,x21,x22,p5,p6,p7,rfl,rfl,hid (d.out.make 0 (by omega) R),l,fun _=>rfl,D,fun h=>⟨rfl,(s0 h).2⟩,J,I,B,s1,K,G,C,s2,rfl⟩⟩
   .have a:f 2=false:=by simpa using q
    obtain rfl:=Option.some.inj (show some _=some o from N);exact⟨left12 (upd f 2 true),zaq f 2 (by omega) a,zbk (.int .i64 ns.length) rfl rfl (by simp[execOp,go_sem]) ⟨upd f 2 true,r,b,x17,x18,.int .i64 ns.length,x20,x21,x22,p5,p6,p7,rfl,rfl,hid (d.out.mark 2 (by omega)),l,E,D,s0,fun _=>rfl,I,B,s1,K,G,C,s2,rfl⟩⟩
   .have a:f 3=false:=by simpa using q
    obtain rfl:=Option.some.inj (show some _=some o from N);have d0:f 2=true:=by simpa using U ⟨2,.data⟩ (by simp) rfl
    have T:=J d0;subst T;have R:f 10=false:=by cases hq:f 10 with|false=>rfl|true=>rw[(s1 hq).1]at a;cases a
    exact⟨left12 (upd f 3 true),zaq f 3 (by omega) a,zbk (.slice (some ⟨w'.heap.size,0,none⟩) ns.length ns.length) rfl rfl (by simp[execOp,go_sem,ac]) ⟨upd f 3 true,upd r 1 w'.heap.size,b,x17,x18,.int .i64 ns.length,(.slice (some ⟨w'.heap.size,0,none⟩) ns.length ns.length),x21,x22,p5,p6,p7,rfl,rfl,hid (d.out.make 1 (by omega) R),l,E,D,s0,J,fun _=>rfl,B,fun h=>⟨rfl,(s1 h).2⟩,K,G,C,s2,rfl⟩⟩
   .have a:f 4=false:=by simpa using q
    obtain rfl:=Option.some.inj (show some _=some o from N);exact⟨left12 (upd f 4 true),zaq f 4 (by omega) a,zbk (.int .i64 ns.length) rfl rfl (by simp[execOp,go_sem]) ⟨upd f 4 true,r,b,x17,x18,x19,x20,.int .i64 ns.length,x22,p5,p6,p7,rfl,rfl,hid (d.out.mark 4 (by omega)),l,E,D,s0,J,I,B,s1,fun _=>rfl,G,C,s2,rfl⟩⟩
   .have a:f 5=false:=by simpa using q
    obtain rfl:=Option.some.inj (show some _=some o from N);have d0:f 4=true:=by simpa using U ⟨4,.data⟩ (by simp) rfl
    have T:=K d0;subst T;have R:f 11=false:=by cases hq:f 11 with|false=>rfl|true=>rw[(s2 hq).1]at a;cases a
    exact⟨left12 (upd f 5 true),zaq f 5 (by omega) a,zbk (.slice (some ⟨w'.heap.size,0,none⟩) ns.length ns.length) rfl rfl (by simp[execOp,go_sem,ac]) ⟨upd f 5 true,upd r 2 w'.heap.size,b,x17,x18,x19,x20,.int .i64 ns.length,(.slice (some ⟨w'.heap.size,0,none⟩) ns.length ns.length),p5,p6,p7,rfl,rfl,hid (d.out.make 2 (by omega) R),l,E,D,s0,J,I,B,s1,K,fun _=>rfl,C,fun h=>⟨rfl,(s2 h).2⟩,rfl⟩⟩
   .have a:f 6=false:=by simpa using q
    obtain rfl:=Option.some.inj (show some _=some o from N);have R:f 9=false:=by cases hq:f 9 with|false=>rfl|true=>rw[(s0 hq).2]at a;cases a
    exact⟨left12 (upd f 6 true),zaq f 6 (by omega) a,zbk (.pointer (some ⟨w'.heap.size,0,none⟩)) rfl rfl (by simp[execOp,go_sem]) ⟨upd f 6 true,r,upd b 0 w'.heap.size,x17,x18,x19,x20,x21,x22,(.pointer (some ⟨w'.heap.size,0,none⟩)),p6,p7,rfl,rfl,hid (d.out.boxed 0 (by omega) R),l,E,fun _=>rfl,fun h=>⟨(s0 h).1,rfl⟩,J,I,B,s1,K,G,C,s2,rfl⟩⟩
   .have a:f 7=false:=by simpa using q
    obtain rfl:=Option.some.inj (show some _=some o from N);have R:f 10=false:=by cases hq:f 10 with|false=>rfl|true=>rw[(s1 hq).2]at a;cases a
    exact⟨left12 (upd f 7 true),zaq f 7 (by omega) a,zbk (.pointer (some ⟨w'.heap.size,0,none⟩)) rfl rfl (by simp[execOp,go_sem]) ⟨upd f 7 true,r,upd b 1 w'.heap.size,x17,x18,x19,x20,x21,x22,p5,(.pointer (some ⟨w'.heap.size,0,none⟩)),p7,rfl,rfl,hid (d.out.boxed 1 (by omega) R),l,E,D,s0,J,I,fun _=>rfl,fun h=>⟨(s1 h).1,rfl⟩,K,G,C,s2,rfl⟩⟩
   .have a:f 8=false:=by simpa using q
    obtain rfl:=Option.some.inj (show some _=some o from N);have R:f 11=false:=by cases hq:f 11 with|false=>rfl|true=>rw[(s2 hq).2]at a;cases a
    exact⟨left12 (upd f 8 true),zaq f 8 (by omega) a,zbk (.pointer (some ⟨w'.heap.size,0,none⟩)) rfl rfl (by simp[execOp,go_sem]) ⟨upd f 8 true,r,upd b 2 w'.heap.size,x17,x18,x19,x20,x21,x22,p5,p6,(.pointer (some ⟨w'.heap.size,0,none⟩)),rfl,rfl,hid (d.out.boxed 2 (by omega) R),l,E,D,s0,J,I,B,s1,K,G,fun _=>rfl,fun h=>⟨(s2 h).1,rfl⟩,rfl⟩⟩
   .have a:f 9=false:=by simpa using q
    obtain rfl:=Option.some.inj (show some _=some o from N);have F:f 6=true:=by simpa using U ⟨6,.data⟩ (by simp) rfl
    have d2:f 1=true:=by simpa using U ⟨1,.data⟩ (by simp) rfl
    have T:=E d2;subst T;have hp:=D F;subst hp;have u:=(d.out.box 0 (by omega) F).2;have hc:w'.cell? ⟨b 0,0,none⟩=some (.slice none 0 0):=by rw[u.cell 0];simp[a]
    have hz:=u.frozen 0;exact⟨left12 (upd f 9 true),zaq f 9 (by omega) a,zjd (w':=w'.setCell ⟨b 0,0,none⟩ (.slice (some ⟨r 0,0,none⟩) ns.length ns.length)) rfl rfl (by simp[execOp,go_sem,hc,hz]) ⟨upd f 9 true,r,b,x17,(.slice (some ⟨r 0,0,none⟩) ns.length ns.length),x19,x20,x21,x22,(.pointer (some ⟨b 0,0,none⟩)),p6,p7,rfl,rfl,hid (d.out.fill 0 (by omega) F),l,E,D,fun _=>⟨d2,F⟩,J,I,B,s1,K,G,C,s2,rfl⟩⟩
   .have a:f 10=false:=by simpa using q
    obtain rfl:=Option.some.inj (show some _=some o from N);have F:f 7=true:=by simpa using U ⟨7,.data⟩ (by simp) rfl
    have d2:f 3=true:=by simpa using U ⟨3,.data⟩ (by simp) rfl
    have T:=I d2;subst T;have hp:=B F;subst hp;have u:=(d.out.box 1 (by omega) F).2;have hc:w'.cell? ⟨b 1,0,none⟩=some (.slice none 0 0):=by rw[u.cell 0];simp[a]
    have hz:=u.frozen 0;exact⟨left12 (upd f 10 true),zaq f 10 (by omega) a,zjd (w':=w'.setCell ⟨b 1,0,none⟩ (.slice (some ⟨r 1,0,none⟩) ns.length ns.length)) rfl rfl (by simp[execOp,go_sem,hc,hz]) ⟨upd f 10 true,r,b,x17,x18,x19,(.slice (some ⟨r 1,0,none⟩) ns.length ns.length),x21,x22,p5,(.pointer (some ⟨b 1,0,none⟩)),p7,rfl,rfl,hid (d.out.fill 1 (by omega) F),l,E,D,s0,J,I,B,fun _=>⟨d2,F⟩,K,G,C,s2,rfl⟩⟩
   .have a:f 11=false:=by simpa using q
    obtain rfl:=Option.some.inj (show some _=some o from N);have F:f 8=true:=by simpa using U ⟨8,.data⟩ (by simp) rfl
    have d2:f 5=true:=by simpa using U ⟨5,.data⟩ (by simp) rfl
    have T:=G d2;subst T;have hp:=C F;subst hp;have u:=(d.out.box 2 (by omega) F).2;have hc:w'.cell? ⟨b 2,0,none⟩=some (.slice none 0 0):=by rw[u.cell 0];simp[a]
    have hz:=u.frozen 0;exact⟨left12 (upd f 11 true),zaq f 11 (by omega) a,zjd (w':=w'.setCell ⟨b 2,0,none⟩ (.slice (some ⟨r 2,0,none⟩) ns.length ns.length)) rfl rfl (by simp[execOp,go_sem,hc,hz]) ⟨upd f 11 true,r,b,x17,x18,x19,x20,x21,(.slice (some ⟨r 2,0,none⟩) ns.length ns.length),p5,p6,(.pointer (some ⟨b 2,0,none⟩)),rfl,rfl,hid (d.out.fill 2 (by omega) F),l,E,D,s0,J,I,B,s1,K,G,C,fun _=>⟨d2,F⟩,rfl⟩⟩
  case fin=>
   rintro m t a' w' ⟨f,r,b,x17,x18,x19,x20,x21,x22,p5,p6,p7,rfl,rfl,d,l,E,D,s0,J,I,B,s1,K,G,C,s2,rfl⟩ hr;have M:=fun i=>mt mem_ready.2 (List.eq_nil_iff_forall_not_mem.1 hr i)
   have t0:f 0=true:=by
    cases e:f 0 with
    |true=>rfl
    |false=>exact(M 0 ⟨by simpa using e,_,rfl,by simp[Region.binds, *]⟩).elim
   have t2:f 2=true:=by
    cases e:f 2 with
    |true=>rfl
    |false=>exact(M 2 ⟨by simpa using e,_,rfl,by simp[Region.binds, *]⟩).elim
   have t4:f 4=true:=by
    cases e:f 4 with
    |true=>rfl
    |false=>exact(M 4 ⟨by simpa using e,_,rfl,by simp[Region.binds, *]⟩).elim
   have t6:f 6=true:=by
    cases e:f 6 with
    |true=>rfl
    |false=>exact(M 6 ⟨by simpa using e,_,rfl,by simp[Region.binds, *]⟩).elim
   have t7:f 7=true:=by
    cases e:f 7 with
    |true=>rfl
    |false=>exact(M 7 ⟨by simpa using e,_,rfl,by simp[Region.binds, *]⟩).elim
   have t8:f 8=true:=by
    cases e:f 8 with
    |true=>rfl
    |false=>exact(M 8 ⟨by simpa using e,_,rfl,by simp[Region.binds, *]⟩).elim
   have t1:f 1=true:=by
    cases e:f 1 with
    |true=>rfl
    |false=>exact(M 1 ⟨by simpa using e,_,rfl,by simp[Region.binds, *]⟩).elim
   have t3:f 3=true:=by
    cases e:f 3 with
    |true=>rfl
    |false=>exact(M 3 ⟨by simpa using e,_,rfl,by simp[Region.binds, *]⟩).elim
   have t5:f 5=true:=by
    cases e:f 5 with
    |true=>rfl
    |false=>exact(M 5 ⟨by simpa using e,_,rfl,by simp[Region.binds, *]⟩).elim
   have t9:f 9=true:=by
    cases e:f 9 with
    |true=>rfl
    |false=>exact(M 9 ⟨by simpa using e,_,rfl,by simp[Region.binds, *]⟩).elim
   have aC:f 10=true:=by
    cases e:f 10 with
    |true=>rfl
    |false=>exact(M 10 ⟨by simpa using e,_,rfl,by simp[Region.binds, *]⟩).elim
   have aq:f 11=true:=by
    cases e:f 11 with
    |true=>rfl
    |false=>exact(M 11 ⟨by simpa using e,_,rfl,by simp[Region.binds, *]⟩).elim
   have hf:f=fun k=>f k:=rfl
   have p:∀k,k<12->f k=true:=by
    intro k hk;obtain rfl|rfl|rfl|rfl|rfl|rfl|rfl|rfl|rfl|rfl|rfl|rfl:k=0\/k=1\/k=2\/k=3\/k=4\/k=5\/k=6\/k=7\/k=8\/k=9\/k=10\/k=11:=by omega
    all_goals assumption
   have hM:Mk3 ns.length w1 w' (fun _=>true) r b:=⟨d.out.below,fun j hj _=>d.out.row j hj (p _ (by omega)),fun j hj _=>by
    have:=d.out.box j hj (p _ (by omega));rw[p (9+j) (by omega)]at this;exact this,fun j k hj hk ab _ _=>d.out.rr j k hj hk ab (p _ (by omega)) (p _ (by omega)),fun j k hj hk ab _ _=>d.out.bb j k hj hk ab (p _ (by omega)) (p _ (by omega))⟩
   have ar:=D t6;have aB:=B t7;have az:=C t8;subst ar;subst aB;subst az;have al:=hid hM;clear hM p hf M hr d l E D s0 J I B s1 K G C s2 t0 t1 t2 t3 t4 t5 t6 t7 t8 t9 aC aq;go_wp2;go_meet;exact⟨r,b,rfl,rfl,rfl,al⟩
 case rest=>
  obtain⟨r,b,rfl,rfl,rfl,d⟩:=hcut;obtain⟨l,X⟩:∃l:Nat->List Int,(fun k=>List.replicate k (-1:Int)++List.replicate (ns.length-k) 0)=l:=⟨_,rfl⟩
  have aA:Hid (∀k,k<ns.length->(l k).set k (-1)=l (k+1)/\(l k).length=ns.length/\(l k).getD k (-1)=0):=hid (fun k hk=>by
   rw[<-X];refine⟨?_,by simp;omega,?_⟩
   .simp only;rw[List.set_append_right _ _ (by simp),List.length_replicate,Nat.sub_self,show ns.length-k=(ns.length-(k+1))+1 from by omega,List.replicate_succ,List.set_cons_zero,List.replicate_succ',List.append_assoc];rfl
   .simp only;rw[List.getD_eq_getElem?_getD,List.getElem?_append_right (by simp),List.length_replicate,Nat.sub_self,List.getElem?_replicate,if_pos (by omega)];rfl)
  have ao:Hid (icells (List.replicate ns.length 0)=jcells (l 0)):=hid (by rw[<-X];simp[icells,jcells]);have an:Hid (l ns.length=List.replicate ns.length (-1)):=hid (by rw[<-X];simp);clear X;obtain⟨s,Q⟩:=ex (r 2)
  obtain⟨Y,S⟩:=ex (b 2)
  have L:Hid (Blk wc Y 36 #[.slice (some ⟨s,0,none⟩) ns.length ns.length]/\Blk wc s 3 (jcells (l 0))):=hid (by
   have h1:=(d.out.box 2 (by omega) rfl).2;have h2:=(d.out.row 2 (by omega) rfl).2;rw[ao.out]at h2;subst Q;subst S;exact⟨by simpa using h1,h2⟩)
  have am:=hid (And.intro Q S);(try rw[S]);clear Q S;have c0:wc.cell? ⟨Y,0,none⟩=some (.slice (some ⟨s,0,none⟩) ns.length ns.length):=L.out.1.cell 0;have ag:Y≠s:=L.out.1.ne_ L.out.2 (by decide);go_upto_region 4 with fail;clear c0;go_loopw [25] (fun s25 wr=>∃k:Nat,k<=ns.length/\s25=.int .i64 k/\Hid (KB s wc wr/\Blk wr s 3 (jcells (l k)))) (fun s25 _=>ns.length-(intOf s25).toNat)
  case atStart=>exact⟨0,by omega,rfl,hid ⟨KB.refl _ _,L.out.2⟩⟩
  case round=>
   obtain⟨k,hk,rfl,HW⟩:=hrel;by_cases hlk:k<ns.length
   .have aj:(k:Int)<(ns.length:Int):=by omega
    have c0:wr.cell? ⟨Y,0,none⟩=some (.slice (some ⟨s,0,none⟩) ns.length ns.length):=(HW.out.1.blk L.out.1 ag).cell 0;obtain⟨e1,e2,e3⟩:=aA.out k hlk;have z0:wr.cell? ⟨s,k,none⟩=some (.int .i64 0):=by rw[HW.out.2.cell,zb2 (by omega),e3]
    have zf:∀i,wr.frozen? ⟨s,i,none⟩=false:=HW.out.2.frozen;have aw:Hid (KB s wc (wr.setCell ⟨s,k,none⟩ (.int .i64 (-1)))/\Blk (wr.setCell ⟨s,k,none⟩ (.int .i64 (-1))) s 3 (jcells (l (k+1)))):=hid ⟨HW.out.1.set _ _,by
     rw[<-e1,<-zfv];exact HW.out.2.set_ k _⟩
    clear e1 e2 e3 HW;go_wp2;go_roundw
    case rel=>exact⟨k+1,by omega,by go_num,aw⟩
    case measure=>simp[intOf];omega
   .have aj:¬((k:Int)<(ns.length:Int)):=by omega
    have ak:Hid (KB s wc wr/\Blk wr s 3 (jcells (List.replicate ns.length (-1)))):=hid (by
     have:=HW.out;rw[show k=ns.length from by omega,an.out]at this;exact this)
    clear HW;go_upto_region 13 with fail;have O:=ap.out;have hw1s:w1.heap.size=V+1:=by rw[<-af.out,<-O];simp
    have l1:Below w.heap.size w w1:=by rw[<-af.out];exact(Below.refl _ _).alloc (Nat.le_refl _) _
    have ai:Blk w1 V 24 #[.slice A ns.length c,.int .i64 root]:=by rw[<-af.out,<-O];exact Blk.new _ _ _
    obtain⟨Q,S⟩:=am.out;obtain⟨x0,y0⟩:=d.out.row 0 (by omega) rfl;obtain⟨x1,y1⟩:=d.out.row 1 (by omega) rfl;obtain⟨x2,y2⟩:=d.out.row 2 (by omega) rfl;obtain⟨_,z0⟩:=d.out.box 0 (by omega) rfl;obtain⟨_,z1⟩:=d.out.box 1 (by omega) rfl;have ax:=d.out.rr 0 1 (by omega) (by omega) (by omega) rfl rfl;have aa:=d.out.rr 0 2 (by omega) (by omega) (by omega) rfl rfl;have ae:=d.out.rr 1 2 (by omega) (by omega) (by omega) rfl rfl;rw[Q]at x2 y2 aa ae;have ah:=ai.below d.out.below (by omega);have x:=ak.out.1;have Z:Below w.heap.size w wr:=(l1.trans (d.out.below.mono (by omega))).trans (x.below (by omega) (by have:=l1.size;have:=d.out.below.size;omega));have ay:=Z.size;obtain⟨z,hz⟩:=ex wr.heap.size
    rw[hz];obtain⟨W,hW⟩:=ex ((((((wr.alloc (.cells #[.slice none 0 0] 36)).alloc (.cells #[.slice none 0 0] 36)).alloc (.cells (bcells (List.replicate ns.length false)) 4)).alloc (.cells #[.slice (some ⟨z+1+1,0,none⟩) ns.length ns.length] 51)).alloc (.cells #[.int .i64 0] 3)).alloc (.cells #[(compL z V (b 0) (b 1) Y (r 0) (r 1) s).fn] 74))
    obtain⟨hT,lW,hWs⟩:=zlx w.heap.size z V (b 0) (b 1) Y (r 0) (r 1) s A c root vs ns wr W hz hW
     (x.blk (by simpa using z0) (z0.ne_ y2 (by decide))) (x.blk (by simpa using z1) (z1.ne_ y2 (by decide))) (x.blk L.out.1 ag) (x.blk y0 aa) (x.blk y1 ae) ak.out.2
     (x.blk ah (by omega)) ax aa ae (by omega) (by omega) (by omega) (by omega) (H.out.below Z)
    unfold compL TL.fn at hW;simp only at hW;rw[hW];have HT:=hid hT;have au:=hid (Z.trans (lW.mono ay));have v0:W.cell? ⟨z+1+1+1+1+1,0,none⟩=some (compL z V (b 0) (b 1) Y (r 0) (r 1) s).fn:=hT.xV.cell 0;unfold compL TL.fn at v0;simp only at v0;have g1:W.cell? ⟨V,1,none⟩=some (.int .i64 root):=hT.xG.cell 1;have hC:=zlw (y:=compL z V (b 0) (b 1) Y (r 0) (r 1) s) hr hl hks ns.length (tzero ns.length) root (fun _=>False) W _ _ hT (zhi _) hroot (zct _ _) (fun g h=>h.elim) (Nat.le_trans List.countP_le_length (by simp));unfold TL.args compL at hC;simp only at hC;have HC:=hid hC;have HX:Hid (w.heap.size<=s/\w.heap.size<=z+1+1+1+1+1+1):=hid ⟨by omega,by omega⟩;clear hW hT hC l1 ai y0 y1 y2 z0 z1 ah x Z lW;go_wp2_with fail;refine HC.out.mono ?_;rintro e w9 ⟨rfl,sv,zv,h9,f9⟩;obtain⟨Az,cz,av,_⟩:=h9.siz.form;subst av;have B:w9.cell? ⟨Y,0,none⟩=some (.slice (some ⟨s,0,none⟩) ns.length ns.length):=h9.xC.cell 0;have C:w9.cell? ⟨z,0,none⟩=some (.slice Az (tvisit (Gr.succ ns) ns.length (tzero ns.length) root).sizes.length cz):=h9.bZ.cell 0;have P:Hid (Below w.heap.size w w9/\Blk w9 s 3 (jcells (tcomp (Gr.succ ns) ns.length root).inn)/\OwnRow intL w9 w.heap.size 3 (.slice Az (tcomp (Gr.succ ns) ns.length root).sizes.length cz) (tcomp (Gr.succ ns) ns.length root).sizes):=
     hid ⟨au.out.trans (HT.out.tfBelow f9),h9.rC,h9.siz.lower HX.out.2⟩
    clear v0 g1 h9 f9;go_upto_region 14 with fail;go_quiet (fail);go_wp2_with fail;refine bodyPost_ret (v:=.tuple #[.slice (some ⟨s,0,none⟩) ns.length ns.length,.slice Az (tvisit (Gr.succ ns) ns.length (tzero ns.length) root).sizes.length cz]) (by simp[results,results47,go_sem]) rfl ?_;exact⟨s,Az,cz,rfl,HX.out.1,below_drewN P.out.1 _,P.out.2.1.drewN _,P.out.2.2.drewN _⟩
theorem infoSl:(prog.info? 36).map (fun i=>(i.zero,i.size,i.bytes))=some (some (.slice none 0 0),1,24):=by kernel_rfl
theorem zje (n:Nat) (hn:n<=1073741824) (W:World):(Instr.makeSlice 73 (.int .i64 (n:Int)) (.int .i64 (n:Int))).run prog W=.ok (.slice (some ⟨W.heap.size,0,none⟩) n n) (W.alloc (.cells (List.replicate n (Value.slice none 0 0)).toArray 36)):=by
 obtain⟨e,d,b,c,a⟩:=info_parts infoSl;have:=zbi (P:=prog) 73 36 e _ underlying73 d b .i64 .i64 n n (Nat.le_refl _) (by rw[a];omega) (by omega) W;rw[c]at this;simp only[Value.cells,zbj]at this;exact this
structure Mems (w:World) (D rM:Nat) (mv:List Value) (ml:List (List Nat)):Prop where
 blk:Blk w rM 36 mv.toArray
 lo:rM<D
 hd:D<=w.heap.size
 len:mv.length=ml.length
 own:∀c (h1:c<mv.length) (h2:c<ml.length),OwnRow intL w D 3 mv[c] ml[c]
 ap:∀c c' (h1:c<mv.length) (h2:c'<mv.length),c≠c'->∀k,mv[c].ownBlock=some k->mv[c'].ownBlock≠some k
section
variable {w w' w2:World} {D rM:Nat} {mv:List Value} {ml:List (List Nat)}
theorem Mems.start {m:Nat} (hb:Blk w rM 36 (List.replicate m (Value.slice none 0 0)).toArray) (lo:rM<D) (hd:D<=w.heap.size):Mems w D rM (List.replicate m (.slice none 0 0)) (List.replicate m []):=
 ⟨hb,lo,hd,by simp,fun c b a=>by simp only[List.getElem_replicate];exact OwnRow.nil,fun c c' b a _ k e=>by simp only[List.getElem_replicate]at e;cases e⟩
theorem Mems.later (h:Mems w D rM mv ml) (hb:Below w.heap.size w w'):Mems w' D rM mv ml:=
 ⟨h.blk.below hb h.blk.lt,h.lo,Nat.le_trans h.hd hb.size,h.len,fun c a b=>(h.own c a b).later hb,h.ap⟩
theorem Mems.alloc (h:Mems w D rM mv ml) (o:Obj):Mems (w.alloc o) D rM mv ml:=h.later ((Below.refl _ _).alloc (Nat.le_refl _) o)
theorem Mems.kb {g:Nat} (h:Mems w D rM mv ml) (hk:KB g w w') (hg:g<D) (hne:g≠rM):Mems w' D rM mv ml:=by
 refine⟨hk.blk h.blk (Ne.symm hne),h.lo,Nat.le_trans h.hd hk.size,h.len,fun c n m=>?_,h.ap⟩;have b:=h.own c n m;have f:=b.lt;refine⟨b.1,b.2.imp id ?_⟩;rintro⟨a,d,j,k,i,l,r⟩;have e:mv[c].ownBlock=some a:=by rw[k];rfl
 have:=f a e;exact⟨a,d,j,k,i,(hk.block a (by omega) (by omega)).trans l,r⟩
theorem Mems.grown (h:Mems w D rM mv ml) {c:Nat} (hc:c<mv.length) {v2:Value} {l:List Nat} (ho:OwnRow intL w2 D 3 v2 l) (hg:w.grownBy w2 (mv[c]).ownBlock) (hat:v2.ownBlock=(mv[c]).ownBlock\/v2.ownBlock=some w.heap.size):
 Mems (w2.setCell ⟨rM,c,none⟩ v2) D rM (mv.set c v2) (ml.set c l):=by
 have g:c<ml.length:=by rw[<-h.len];exact hc
 have j:=h.lo;have hsz:=hg.size;have f:Blk w2 rM 36 mv.toArray:=h.blk.grown hg (fun e=>by have:=((h.own c hc g).lt rM e.symm).1;omega);have hap:∀c' (h1:c'<mv.length),c'≠c->∀k,v2.ownBlock=some k->mv[c'].ownBlock≠some k:=by
  intro c' h1 a k e d;rcases hat with h3|h3
  .exact h.ap c' c h1 hc a k d (h3.symm.trans e)
  .have:=((h.own c' h1 (by rw[<-h.len];exact h1)).lt k d).2;rw[h3]at e;injection e with e;omega
 refine⟨?_,j,?_,by simp[h.len],?_,?_⟩
 .have:=f.set_ c v2;simpa using this
 .have:=h.hd;simp[World.setCell];omega
 .intro c' h1 b;simp only[List.length_set]at h1 b;by_cases hcc:c'=c
  .subst hcc;simp only[List.getElem_set_self];exact ho.setCell (p:=⟨rM,c',none⟩) (fun e=>by have:=(ho.lt _ e).1;simp only at this;omega) _
  .simp only[List.getElem_set_ne (Ne.symm hcc)];have h3:=h.own c' h1 b;have i:=h3.off hg (fun k e d=>h.ap c' c h1 hc hcc k e d.symm);exact i.setCell (p:=⟨rM,c,none⟩) (fun e=>by have:=(h3.lt _ e).1;simp only at this;omega) _
 .intro n m h1 b a k e;simp only[List.length_set]at h1 b;by_cases h3:n=c
  .grind
  .simp only[List.getElem_set_ne (Ne.symm h3)]at e;by_cases i:m=c
   .grind
   .simp only[List.getElem_set_ne (Ne.symm i)];exact h.ap n m h1 b a k e
theorem Mems.grownKB {w4:World} (h:Mems w D rM mv ml) (hk:KB rM w4 w) (hD:w4.heap.size=D) {c:Nat} (hc:c<mv.length) (v2:Value) (hg:w.grownBy w2 (mv[c]).ownBlock):
 KB rM w4 (w2.setCell ⟨rM,c,none⟩ v2):=by
 have b:c<ml.length:=by rw[<-h.len];exact hc
 have a:Below D w w2:=(h.own c hc b).grown_below hg h.hd;refine KB.set ⟨a.os.trans hk.os,a.tape.trans hk.tape,a.output.trans hk.output,Nat.le_trans hk.size a.size,fun k d e=>(a.block k (by omega)).trans (hk.block k d e)⟩ _ _
theorem Mems.at_ (h:Mems w D rM mv ml) {c:Nat} (hc:c<ml.length):∃A cap,mv[c]? =some (.slice A (ml[c]).length cap)/\w.cell? ⟨rM,c,none⟩=some (.slice A (ml[c]).length cap)/\RowAt intL w w.heap.size A ml[c]:=by
 have a:c<mv.length:=by rw[h.len];exact hc
 obtain⟨A,cap,b,d⟩:=(h.own c a hc).form;refine⟨A,cap,by rw[List.getElem?_eq_getElem a,b],?_,d⟩;rw[h.blk.cell];simp[List.getElem?_eq_getElem a,b]
theorem Mems.row (h:Mems w D rM mv ml) {c:Nat} (hc:c<ml.length) {A:Option Addr} {n cap:Nat} (e:mv[c]? =some (.slice A n cap)):RowAt intL w w.heap.size A ml[c]:=by
 obtain⟨A',cap',a,_,b⟩:=h.at_ hc;rw[a]at e;injection e with e
 injection e with e _ _
 subst e;exact b
end
theorem zhn (inn:Nat->Int) (i c:Nat):members inn (i+1) c=if inn i=(c:Int)then members inn i c++[i]else members inn i c:=by
 unfold members;rw[List.range_succ,List.filter_append];by_cases h:inn i=(c:Int)<;>simp[h]
def memsL (inn:Nat->Int) (i m:Nat):List (List Nat):=(List.range m).map (fun c=>members inn i c)
theorem zci (inn:Nat->Int) (i m:Nat):(memsL inn i m).length=m:=by simp[memsL]
theorem zlz (inn:Nat->Int) (m:Nat):memsL inn 0 m=List.replicate m []:=by
 unfold memsL;apply List.ext_getElem
 .simp
 .intro i h1 h2;simp[members]
theorem zcj (inn:Nat->Int) (i m c:Nat) (h:c<(memsL inn i m).length):(memsL inn i m)[c]=members inn i c:=by simp[memsL]
theorem zl0 (inn:Nat->Int) (i m c:Nat) (h:inn i=(c:Int)):memsL inn (i+1) m=(memsL inn i m).set c (members inn i c++[i]):=by
 apply List.ext_getElem
 .simp[memsL]
 .intro k h1 h2;rw[zcj,zhn];by_cases hk:k=c
  .grind
  .rw[List.getElem_set_ne (Ne.symm hk),if_neg (by omega),zcj]
theorem zeu (inn:Nat->Int) (i c:Nat):(members inn i c).length<=i:=by
 unfold members;exact Nat.le_trans (List.length_filter_le _ _) (by simp)
theorem zl1 (inn:Nat->Int) (n c:Nat):∀x∈members inn n c,x<n:=by
 intro x a;unfold members at a;exact List.mem_range.1 (List.mem_filter.1 a).1
def Sml (M:Nat) (p:List Nat×Bool):Prop:=∀k,p.1.getD k 0<=M
theorem Sml.step {M:Nat} {inn:Nat->Int} {c:Nat} {p:List Nat×Bool} (h:Sml M p) (x:Nat):Sml M (dstep inn c p x):=by
 unfold dstep;split
 .exact h
 .intro k;show(p.1.set c _).getD k 0<=M;by_cases hk:c=k
  .subst hk;by_cases hl:c<p.1.length
   .rw[za2 _ _ _ _ hl];have:=h c;have:=h (inn x).toNat;omega
   .grind
  .rw[Gr.getD_set_ne _ _ _ _ _ hk];exact h k
theorem Sml.fold {M:Nat} {inn:Nat->Int} {c:Nat} (L:List Nat):∀{p:List Nat×Bool},Sml M p->Sml M (L.foldl (dstep inn c) p):=by
 induction L with
 |nil=>intro p h;exact h
 |cons x L ih=>intro p h;rw[List.foldl_cons];exact ih (h.step x)
theorem Sml.foldM {M:Nat} {inn:Nat->Int} {c:Nat} (sc:Nat->List Nat) (L:List Nat):∀{p:List Nat×Bool},Sml M p->Sml M (L.foldl (fun p i=>(sc i).foldl (dstep inn c) p) p):=by
 induction L with
 |nil=>intro p h;exact h
 |cons x L ih=>intro p h;rw[List.foldl_cons];exact ih (h.fold _)
theorem zn8 (inn:Nat->Int) (c:Nat) (p:List Nat×Bool) (x:Nat):(dstep inn c p x).1.length=p.1.length:=by
 unfold dstep;split<;>simp
theorem zev (inn:Nat->Int) (c:Nat) (L:List Nat):∀p:List Nat×Bool,(L.foldl (dstep inn c) p).1.length=p.1.length:=by
 induction L with
 |nil=>intro p;rfl
 |cons x L ih=>intro p;rw[List.foldl_cons,ih,zn8]
theorem zdw (inn:Nat->Int) (c:Nat) (sc:Nat->List Nat) (L:List Nat):∀p:List Nat×Bool,(L.foldl (fun p i=>(sc i).foldl (dstep inn c) p) p).1.length=p.1.length:=by
 induction L with
 |nil=>intro p;rfl
 |cons x L ih=>intro p;rw[List.foldl_cons,ih,zev]
theorem zn9 (sc:Nat->List Nat) (inn:Nat->Int) (n:Nat) (sizes:List Nat) (p:List Nat×Bool) (c:Nat):(dcomp sc inn n sizes p c).1.length=p.1.length:=by
 unfold dcomp;simp[zdw]
theorem zfw (sc:Nat->List Nat) (inn:Nat->Int) (n:Nat) (sizes:List Nat) (L:List Nat):∀p:List Nat×Bool,(L.foldl (dcomp sc inn n sizes) p).1.length=p.1.length:=by
 induction L with
 |nil=>intro p;rfl
 |cons x L ih=>intro p;rw[List.foldl_cons,ih,zn9]
theorem Sml.comp {M N:Nat} {sc:Nat->List Nat} {inn:Nat->Int} {n:Nat} {sizes:List Nat} {p:List Nat×Bool} (h:Sml M p) (c:Nat) (hN:∀k,sizes.getD k 0<=N):Sml (M+N) (dcomp sc inn n sizes p c):=by
 unfold dcomp;have a:=h.foldM (inn:=inn) (c:=c) sc (members inn n c);obtain⟨q,b⟩:=ex ((members inn n c).foldl (fun p i=>(sc i).foldl (dstep inn c) p) p)
 rw[b]at a;rw[b];intro k;show(q.1.set c _).getD k 0<=_;have:=a k;by_cases hk:c=k
 .grind
 .grind
theorem Sml.comps {N:Nat} {sc:Nat->List Nat} {inn:Nat->Int} {n:Nat} {sizes:List Nat} {p:List Nat×Bool} (h:Sml 0 p) (hN:∀k,sizes.getD k 0<=N) (k:Nat):Sml (k*N) ((List.range k).foldl (dcomp sc inn n sizes) p):=by
 induction k with
 |zero=>simpa using h
 |succ k ih=>
  rw[List.range_succ,List.foldl_append,Nat.add_mul,Nat.one_mul];exact ih.comp k hN
theorem rep48 (n:Nat):Lib.repeatL [48] n=List.replicate n (48:UInt8):=by
 induction n with
 |zero=>rfl
 |succ n ih=>
  show[48]++Lib.repeatL [48] n=_;rw[ih];rfl
theorem zcd (x n:Nat) (i j:Int) (hi:i=(x:Int)) (hj:j=(n:Int)) (h1:1<=n) (hn:n<=9) (hx:x<10 ^ n) (w:World) (hT:UT w):
 Calls prog 122 #[.int .i64 i,.int .i64 j] w fun e w'=>e=.returned (.string ⟨(Gr.pd n x).toArray⟩)/\Below w.heap.size w w':=by
 subst hi;subst hj;have hx9:x<1000000000:=Nat.lt_of_lt_of_le hx (Nat.pow_le_pow_right (n:=10) (by omega) (show n<=9 by omega));have g:(Lib.decDigits x).length<=n:=by rw[Lib.decDigits_length];exact Nat.le_of_succ_le_succ (by have:=Gr.zbn (n-1) x (by rwa[show n-1+1=n from by omega]);omega)
 have q:=hid (fun(W:World) (hW:UT W)=>zg1 (x:Int) (by omega) (by omega) W hW);rw[Gr.zgp]at q;have a:=hid (Gr.zpo n x h1 hx);obtain⟨d,s⟩:=ex (Lib.decDigits x)
 rw[s]at q a g;obtain⟨r,t⟩:=ex (Gr.pd n x)
 rw[t]at a ⊢;obtain⟨z,m⟩:=ex (List.replicate (n-d.length) (48:UInt8))
 have hzl:z.length<=9:=by rw[<-m];simp;omega
 have k:Hid (∀W,Calls prog 152 #[.string ⟨#[48]⟩,.int .i64 ((n-d.length:Nat):Int)] W fun e w'=>e=.returned (.string ⟨z.toArray⟩)/\Below W.heap.size W w'):=hid (fun W=>by
  have:=strings_Repeat ⟨#[48]⟩ (n-d.length) W (by omega) (by show 1*(n-d.length)<=_;omega);rw[show(⟨#[48]⟩:ByteArray).data.toList=[48]from rfl,rep48,m]at this;exact this)
 rw[m]at a;have l:((n-d.length:Nat):Int)=max 0 ((n:Int)-(d.length:Int)):=by omega
 rw[l]at k;have hm0:0<=(n:Int)-(d.length:Int):=by omega
 have h:=fun W=>zad z d (by omega) W
 rw[a.out]at h;have o:=hid hT;clear s t m l hT hx;go_enter func122,ntmps122;go_wp2_with fail;refine(q.out _ o.out).mono ?_;rintro e w1 ⟨rfl,f⟩;have c:=hid f;clear f;go_wp2_with fail;refine(k.out _).mono ?_;rintro e u ⟨rfl,b⟩;have p:Hid (Below w.heap.size w u):=hid (c.out.trans (b.mono c.out.size));clear b;go_wp2;go_ret;exact⟨rfl,p.out⟩
theorem zdp (date time zone:Bool) (y m d h mi c nanos:Nat) (off:Int) (late:Bool) (hy:y<=999999999) (hm:m<=999999999) (hd:d<=999999999) (hh:h<=999999999) (hmi:mi<=999999999) (hc:c<=999999999) (hn:nanos<=999999999) (w:World):
 Calls prog 132 #[.agg #[.bool date,.bool time,.bool zone,.int .i64 (y:Int),.int .i64 (m:Int),.int .i64 (d:Int),.int .i64 (h:Int),.int .i64 (mi:Int),.int .i64 (c:Int),.int .i64 (nanos:Int),.int .i64 off,.bool late]] w fun e w'=>e=.returned (.string ⟨((if date=true then dateS y m d else[])++(if(date && time)=true then[84]else[])++(if time=true then clkS h mi c nanos else[])++(if zone=true then[90]else[]):Gr.Str).toArray⟩)/\Below w.heap.size w w':=by
 have ah:=hid (fun W=>zce y 4 (y:Int) 4 rfl rfl (by omega) (by omega) W);have av:=za6 4 y;have Q:=hid (fun W=>zce m 2 (m:Int) 2 rfl rfl (by omega) (by omega) W);have ao:=za6 2 m;have ae:=hid (fun W=>zce d 2 (d:Int) 2 rfl rfl (by omega) (by omega) W);have aC:=za6 2 d;have ag:=hid (fun W=>zce h 2 (h:Int) 2 rfl rfl (by omega) (by omega) W);have au:=za6 2 h;have M:=hid (fun W=>zce mi 2 (mi:Int) 2 rfl rfl (by omega) (by omega) W);have ak:=za6 2 mi;have ab:=hid (fun W=>zce c 2 (c:Int) 2 rfl rfl (by omega) (by omega) W);have aG:=za6 2 c;have ax:=hid (fun W=>zce nanos 9 (nanos:Int) 9 rfl rfl (by omega) (by omega) W);have an:=za6 9 nanos;obtain⟨py,aa⟩:=ex (Gr.pd 4 y)
 rw[aa]at ah av;obtain⟨pm,ai⟩:=ex (Gr.pd 2 m)
 rw[ai]at Q ao;obtain⟨pd,ad⟩:=ex (Gr.pd 2 d)
 rw[ad]at ae aC;obtain⟨ph,N⟩:=ex (Gr.pd 2 h)
 rw[N]at ag au;obtain⟨pi,R⟩:=ex (Gr.pd 2 mi)
 rw[R]at M ak;obtain⟨pc,ac⟩:=ex (Gr.pd 2 c)
 rw[ac]at ab aG;obtain⟨J,F⟩:=ex (Gr.pd 9 nanos)
 rw[F]at ax an;have B:Hid (dateS y m d=py++[45]++pm++[45]++pd/\clkS h mi c nanos=ph++[58]++pi++[58]++pc++(if nanos=0 then([]:Gr.Str)else 46::trimZ J)/\Gr.pd 9 nanos=J):=hid ⟨by simp only[dateS,aa,ai,ad];simp,by simp only[clkS,nanoS,N,R,ac,F];simp,F⟩;clear aa ai ad N R ac F;obtain⟨r,hr⟩:∃r:Gr.Str,((if date=true then dateS y m d else[])++(if(date && time)=true then[84]else[])++(if time=true then clkS h mi c nanos else[])++(if zone=true then[90]else[]))=r:=⟨_,rfl⟩
 have ar:=hid hr;rw[hr];clear hr;obtain⟨p,H⟩:=ex w.heap.size
 obtain⟨a,T⟩:∃a,a=w.alloc (.cells #[.bool date,.bool time,.bool zone,.int .i64 (y:Int),.int .i64 (m:Int),.int .i64 (d:Int),.int .i64 (h:Int),.int .i64 (mi:Int),.int .i64 (c:Int),.int .i64 (nanos:Int),.int .i64 off,.bool late] 147):=⟨_,rfl⟩
 have b:Hid (Blk a p 147 (T12 date time zone (y:Int) (m:Int) (d:Int) (h:Int) (mi:Int) (c:Int) (nanos:Int) off late)/\Below p w a):=hid (by rw[T,<-H];exact⟨Blk.new _ _ _,(Below.refl _ _).alloc (Nat.le_refl _) _⟩);have aW:=hid H;have aL:Hid (∀W:WB a.heap.size a,Calls prog 167 #[.int .i64 (y:Int),.int .i64 4] W.w fun e w'=>e=.returned (.string ⟨py.toArray⟩)/\Below a.heap.size a w'):=hid (fun W=>(ah.out W.w).mono (fun _ _ ⟨s,q⟩=>⟨s,W.h.trans (q.mono W.h.size)⟩));have aF:Hid (∀W:WB a.heap.size a,Calls prog 167 #[.int .i64 (m:Int),.int .i64 2] W.w fun e w'=>e=.returned (.string ⟨pm.toArray⟩)/\Below a.heap.size a w'):=hid (fun W=>(Q.out W.w).mono (fun _ _ ⟨s,q⟩=>⟨s,W.h.trans (q.mono W.h.size)⟩));have aM:Hid (∀W:WB a.heap.size a,Calls prog 167 #[.int .i64 (d:Int),.int .i64 2] W.w fun e w'=>e=.returned (.string ⟨pd.toArray⟩)/\Below a.heap.size a w'):=hid (fun W=>(ae.out W.w).mono (fun _ _ ⟨s,q⟩=>⟨s,W.h.trans (q.mono W.h.size)⟩));have az:Hid (∀W:WB a.heap.size a,Calls prog 167 #[.int .i64 (h:Int),.int .i64 2] W.w fun e w'=>e=.returned (.string ⟨ph.toArray⟩)/\Below a.heap.size a w'):=hid (fun W=>(ag.out W.w).mono (fun _ _ ⟨s,q⟩=>⟨s,W.h.trans (q.mono W.h.size)⟩));have am:Hid (∀W:WB a.heap.size a,Calls prog 167 #[.int .i64 (mi:Int),.int .i64 2] W.w fun e w'=>e=.returned (.string ⟨pi.toArray⟩)/\Below a.heap.size a w'):=hid (fun W=>(M.out W.w).mono (fun _ _ ⟨s,q⟩=>⟨s,W.h.trans (q.mono W.h.size)⟩));have aj:Hid (∀W:WB a.heap.size a,Calls prog 167 #[.int .i64 (c:Int),.int .i64 2] W.w fun e w'=>e=.returned (.string ⟨pc.toArray⟩)/\Below a.heap.size a w'):=hid (fun W=>(ab.out W.w).mono (fun _ _ ⟨s,q⟩=>⟨s,W.h.trans (q.mono W.h.size)⟩));clear ah Q ae ag M ab;go_enter func132,ntmps132;go_upto_region 2 with fail;(try rw[<-T]);(try rw[H]);clear T H;have q0:a.cell? ⟨p,0,none⟩=some (.bool date):=(b.out.1.below (Below.refl _ _) b.out.1.lt).cell 0;go_upto_if 6 with fail;go_cut [3] (fun s3 wx=>∃S:Gr.Str,s3=.string ⟨S.toArray⟩/\S.length<=60/\Hid (S=(if date=true then dateS y m d else[])/\Below a.heap.size a wx))
 case first=>
  cases date with
  |true=>
   go_upto_region 3 with fail;clear q0;have p3:∀W:WB a.heap.size a,W.w.cell? ⟨p,3,none⟩=some (.int .i64 (y:Int)):=fun W=>(b.out.1.below W.h b.out.1.lt).cell 3
   have p4:∀W:WB a.heap.size a,W.w.cell? ⟨p,4,none⟩=some (.int .i64 (m:Int)):=fun W=>(b.out.1.below W.h b.out.1.lt).cell 4
   have p5:∀W:WB a.heap.size a,W.w.cell? ⟨p,5,none⟩=some (.int .i64 (d:Int)):=fun W=>(b.out.1.below W.h b.out.1.lt).cell 5
   obtain⟨s1,v⟩:∃x:Gr.Str,py++[45]=x:=⟨_,rfl⟩
   have Ls1:s1.length<=20:=by rw[<-v];simp<;>omega
   have aQ:=fun W=>zad py [45] (by first|omega| (simp<;>omega)) W
   rw[v]at aQ;have aS:=hid v;clear v;obtain⟨s2,A⟩:∃x:Gr.Str,s1++pm=x:=⟨_,rfl⟩
   have Ls2:s2.length<=30:=by rw[<-A];simp<;>omega
   have a4:=fun W=>zad s1 pm (by first|omega| (simp<;>omega)) W
   rw[A]at a4;have aZ:=hid A;clear A;obtain⟨s3,z⟩:∃x:Gr.Str,s2++[45]=x:=⟨_,rfl⟩
   have Ls3:s3.length<=40:=by rw[<-z];simp<;>omega
   have a0:=fun W=>zad s2 [45] (by first|omega| (simp<;>omega)) W
   rw[z]at a0;have a1:=hid z;clear z;obtain⟨s4,E⟩:∃x:Gr.Str,s3++pd=x:=⟨_,rfl⟩
   have aV:s4.length<=60:=by rw[<-E];simp<;>omega
   have a3:=fun W=>zad s3 pd (by first|omega| (simp<;>omega)) W
   rw[E]at a3;have aT:=hid E;clear E;refine zac a.heap.size a (by kernel_rfl) (by kernel_rfl) (Below.refl _ _) ?_
   iterate 14 (try go_big_quiet_step ((first| (with_reducible refine Calls.grow (aL.out _))| (with_reducible refine Calls.grow (aF.out _))| (with_reducible refine Calls.grow (aM.out _)))))
   refine wpQuiet_nil ?_;rintro _ ⟨wz,rfl⟩;go_wp2;go_meet;exact⟨s4,rfl,aV,hid ⟨by rw[if_pos trivial,B.out.1,<-aT.out,<-a1.out,<-aZ.out,<-aS.out],wz.h⟩⟩
  |false=>
   go_wp2;go_meet;exact⟨[],rfl,by simp,hid ⟨rfl,Below.refl _ _⟩⟩
 case rest=>
 obtain⟨S,rfl,hS,HS⟩:=hcut;clear q0;obtain⟨q0,q1⟩:=cells2 (b.out.1.below HS.out.2 b.out.1.lt);go_upto_region 4 with fail;obtain⟨Z,O⟩:∃Z,Z=wc:=⟨_,rfl⟩
 subst O;go_cut [25] (fun s25 wx=>s25=.bool (date && time)/\wx=Z)
 case first=>
  cases date<;>cases time
  all_goals
   go_wp2;go_meet;exact⟨rfl,rfl⟩
 case rest=>
 obtain⟨rfl,rfl⟩:=hcut;obtain⟨Z,O⟩:∃Z,Z=wc:=⟨_,rfl⟩
 subst O;go_upto_if 25 with fail;obtain⟨dt,af⟩:=ex (date && time)
 have aq:=hid af;(try rw[af]);clear af;go_cut [3] (fun s3 wx=>∃U:Gr.Str,s3=.string ⟨U.toArray⟩/\U.length<=61/\Hid (U=S++(if(date && time)=true then[84]else[])/\wx=Z))
 case first=>
  cases dt with
  |true=>
   obtain⟨s5,t⟩:∃x:Gr.Str,S++[84]=x:=⟨_,rfl⟩
   have a9:s5.length<=61:=by rw[<-t];simp<;>omega
   have a7:=fun W=>zad S [84] (by first|omega| (simp<;>omega)) W
   rw[t]at a7;have aU:=hid t;clear t;go_wp2;go_meet;exact⟨s5,rfl,a9,hid ⟨by rw[aq.out,if_pos rfl,aU.out],rfl⟩⟩
  |false=>
   go_wp2;go_meet;exact⟨S,rfl,by omega,hid ⟨by rw[aq.out];simp,rfl⟩⟩
 case rest=>
 obtain⟨U,rfl,hU,HU⟩:=hcut;obtain⟨wm,bb⟩:∃wm,wm=wc:=⟨_,rfl⟩
 subst bb;have X:Hid (Below a.heap.size a wm):=hid (by rw[HU.out.2];exact HS.out.2);clear q0 q1;have q1:wm.cell? ⟨p,1,none⟩=some (.bool time):=(b.out.1.below X.out b.out.1.lt).cell 1;go_upto_region 6 with fail;go_upto_if 29 with fail;go_cut [3] (fun s3 wx=>∃V:Gr.Str,s3=.string ⟨V.toArray⟩/\V.length<=200/\Hid (V=U++(if time=true then clkS h mi c nanos else[])/\Below a.heap.size a wx))
 case first=>
  cases time with
  |false=>
   go_wp2;go_meet;exact⟨U,rfl,by omega,hid ⟨by simp,X.out⟩⟩
  |true=>
   go_upto_region 7 with fail;clear q1;have p6:∀W:WB a.heap.size a,W.w.cell? ⟨p,6,none⟩=some (.int .i64 (h:Int)):=fun W=>(b.out.1.below W.h b.out.1.lt).cell 6
   have p7:∀W:WB a.heap.size a,W.w.cell? ⟨p,7,none⟩=some (.int .i64 (mi:Int)):=fun W=>(b.out.1.below W.h b.out.1.lt).cell 7
   have p8:∀W:WB a.heap.size a,W.w.cell? ⟨p,8,none⟩=some (.int .i64 (c:Int)):=fun W=>(b.out.1.below W.h b.out.1.lt).cell 8
   obtain⟨s6,C⟩:∃x:Gr.Str,U++ph=x:=⟨_,rfl⟩
   have Ls6:s6.length<=80:=by rw[<-C];simp<;>omega
   have aP:=fun W=>zad U ph (by first|omega| (simp<;>omega)) W
   rw[C]at aP;have aR:=hid C;clear C;obtain⟨s7,u⟩:∃x:Gr.Str,s6++[58]=x:=⟨_,rfl⟩
   have Ls7:s7.length<=90:=by rw[<-u];simp<;>omega
   have aB:=fun W=>zad s6 [58] (by first|omega| (simp<;>omega)) W
   rw[u]at aB;have aY:=hid u;clear u;obtain⟨s8,D⟩:∃x:Gr.Str,s7++pi=x:=⟨_,rfl⟩
   have Ls8:s8.length<=110:=by rw[<-D];simp<;>omega
   have aA:=fun W=>zad s7 pi (by first|omega| (simp<;>omega)) W
   rw[D]at aA;have a6:=hid D;clear D;obtain⟨s9,G⟩:∃x:Gr.Str,s8++[58]=x:=⟨_,rfl⟩
   have Ls9:s9.length<=120:=by rw[<-G];simp<;>omega
   have aw:=fun W=>zad s8 [58] (by first|omega| (simp<;>omega)) W
   rw[G]at aw;have a2:=hid G;clear G;obtain⟨s10,j⟩:∃x:Gr.Str,s9++pc=x:=⟨_,rfl⟩
   have Ls10:s10.length<=140:=by rw[<-j];simp<;>omega
   have I:=fun W=>zad s9 pc (by first|omega| (simp<;>omega)) W
   rw[j]at I;have al:=hid j;clear j;refine zac a.heap.size a (by kernel_rfl) (by kernel_rfl) X.out ?_
   iterate 16 (try go_big_quiet_step ((first| (with_reducible refine Calls.grow (az.out _))| (with_reducible refine Calls.grow (am.out _))| (with_reducible refine Calls.grow (aj.out _)))))
   refine wpQuiet_nil ?_;rintro _ ⟨wy,rfl⟩;have ap:Hid (U++clkS h mi c nanos=s10++(if nanos=0 then([]:Gr.Str)else 46::trimZ J)):=hid (by rw[B.out.2.1,<-al.out,<-a2.out,<-a6.out,<-aY.out,<-aR.out];simp);clear p6 p7 p8 aP aB aA aw I;have q9:wy.w.cell? ⟨p,9,none⟩=some (.int .i64 (nanos:Int)):=(b.out.1.below wy.h b.out.1.lt).cell 9;go_wp2_with fail;refine(ax.out _).mono ?_;rintro e w5 ⟨rfl,aE⟩;have aI:Hid (Below a.heap.size a w5):=hid (wy.h.trans (aE.mono wy.h.size));clear aE q9;go_wp2_with fail;go_loop [4] (fun s4=>∃f:Gr.Str,s4=.string ⟨f.toArray⟩/\f.length<=9/\Hid (trimZ f=trimZ J)) (fun s4=>match s4 with| .string x=>x.size|_=>0)
   case atStart=>exact⟨J,rfl,by omega,hid rfl⟩
   case round=>
    obtain⟨f,rfl,aO,L⟩:=hrel;rcases List.eq_nil_or_concat f with rfl|⟨g,ch,hfg⟩
    .have P:Hid (U++clkS h mi c nanos=s10):=hid (by
      rw[ap.out];have h1:=L.out;rw[show(if nanos=0 then([]:Gr.Str)else 46::trimZ J)=[]from by
       by_cases h0:nanos=0
       .rw[if_pos h0]
       .exact absurd h1.symm (by rw[<-B.out.2.2];exact zpp 9 nanos (by omega) (by omega))]
      simp)
     go_wp2;go_meet;exact⟨s10,rfl,by omega,hid ⟨by rw[if_pos trivial,P.out],aI.out⟩⟩
    .have Y:f=g++[ch]:=by rw[hfg];simp
     have hgl:g.length<=8:=by rw[Y]at aO;simp at aO;omega
     have hg2:(f.length:Int)-1=(g.length:Int):=by rw[Y];simp
     have i:g.length<f.length:=by rw[Y];simp
     have o:f[g.length]'i=ch:=by
      have:∀l:Gr.Str,l=g++[ch]->∀h,l[g.length]'h=ch:=by rintro _ rfl h;simp
      exact this f Y i
     have hcut:=fun W=>zui f g.length (g.length:Int) rfl (Nat.le_of_lt i) W
     rw[show f.take g.length=g from by rw[Y];simp]at hcut;have aD:Hid (trimZ f=if ch=48 then trimZ g else f):=hid (by rw[Y];exact zf3 g ch);clear Y hfg;have hF0:(0:Int)<(f.length:Int):=by omega
     have K:0<f.length:=by omega
     by_cases hz:ch=48
     .have ba:=zax f g.length i ch 48 48 (by decide) o hz;have a8:=zar f g.length i ch 48 48 (by decide) o hz;have aX:Hid (trimZ g=trimZ J):=hid (by rw[<-L.out,aD.out,if_pos hz]);have hms:g.length<f.length:=i;clear o hz;go_wp2;go_round
      case rel=>exact⟨g,rfl,by omega,aX⟩
      case measure=>simp[ByteArray.size];omega
     .have ba:=zap f g.length i ch 48 48 (by decide) o hz;have a8:=zas f g.length i ch 48 48 (by decide) o hz;have aJ:Hid (trimZ J=f):=hid (by rw[<-L.out,aD.out,if_neg hz]);clear o hz hcut;obtain⟨s11,k⟩:∃x:Gr.Str,s10++[46]=x:=⟨_,rfl⟩
      have Ls11:s11.length<=150:=by rw[<-k];simp<;>omega
      have aH:=fun W=>zad s10 [46] (by first|omega| (simp<;>omega)) W
      rw[k]at aH;have ay:=hid k;clear k;obtain⟨s12,n⟩:∃x:Gr.Str,s11++f=x:=⟨_,rfl⟩
      have Ls12:s12.length<=170:=by rw[<-n];simp<;>omega
      have aN:=fun W=>zad s11 f (by first|omega| (simp<;>omega)) W
      rw[n]at aN;have aK:=hid n;clear n;have P:Hid (U++clkS h mi c nanos=s12):=hid (by
       rw[ap.out,<-aK.out,<-ay.out];have a5:¬nanos=0:=fun h0=>by
        have h1:=B.out.2.2;rw[h0,zpn]at h1;have h2:=aJ.out;rw[<-h1,zml]at h2;rw[<-h2]at K;simp at K
       rw[if_neg a5,aJ.out];simp)
      go_wp2;go_meet;exact⟨s12,rfl,by omega,hid ⟨by rw[if_pos trivial,P.out],aI.out⟩⟩
 case rest=>
 obtain⟨V,rfl,hV,L⟩:=hcut;clear q1;have q2:wc.cell? ⟨p,2,none⟩=some (.bool zone):=(b.out.1.below L.out.2 b.out.1.lt).cell 2;have b2:=fun W=>zad V [90] (by first|omega| (simp<;>omega)) W
 have HZ:Hid (Below w.heap.size w wc):=hid (by rw[aW.out];exact b.out.2.trans (L.out.2.mono (Nat.le_of_lt b.out.1.lt)));cases zone with
 |true=>
  have P:Hid (r=V++[90]):=hid (by rw[<-ar.out,L.out.1,HU.out.1,HS.out.1];rfl);go_wp2;go_ret;exact⟨by rw[P.out]<;>rfl,HZ.out⟩
 |false=>
  have P:Hid (r=V):=hid (by rw[<-ar.out,L.out.1,HU.out.1,HS.out.1];simp);go_wp2;go_ret;exact⟨by rw[P.out]<;>rfl,HZ.out⟩
theorem zqe (y m d h mi c nanos:Nat) (off:Int) (late:Bool) (hy:y<=999999999) (hm:m<=999999999) (hd:d<=999999999) (hh:h<=999999999) (hmi:mi<=999999999) (hc:c<=999999999) (hn:nanos<=999999999) (w:World):
 Calls prog 132 #[.agg #[.bool true,.bool false,.bool false,.int .i64 (y:Int),.int .i64 (m:Int),.int .i64 (d:Int),.int .i64 (h:Int),.int .i64 (mi:Int),.int .i64 (c:Int),.int .i64 (nanos:Int),.int .i64 off,.bool late]] w fun e w'=>e=.returned (.string ⟨(dateS y m d:Gr.Str).toArray⟩)/\Below w.heap.size w w':=by
 simpa using zdp true false false y m d h mi c nanos off late hy hm hd hh hmi hc hn w
theorem zqf (y m d h mi c nanos:Nat) (off:Int) (late:Bool) (hy:y<=999999999) (hm:m<=999999999) (hd:d<=999999999) (hh:h<=999999999) (hmi:mi<=999999999) (hc:c<=999999999) (hn:nanos<=999999999) (w:World):
 Calls prog 132 #[.agg #[.bool false,.bool true,.bool false,.int .i64 (y:Int),.int .i64 (m:Int),.int .i64 (d:Int),.int .i64 (h:Int),.int .i64 (mi:Int),.int .i64 (c:Int),.int .i64 (nanos:Int),.int .i64 off,.bool late]] w fun e w'=>e=.returned (.string ⟨(clkS h mi c nanos:Gr.Str).toArray⟩)/\Below w.heap.size w w':=by
 simpa using zdp false true false y m d h mi c nanos off late hy hm hd hh hmi hc hn w
theorem zqg (y m d h mi c nanos:Nat) (off:Int) (late:Bool) (hy:y<=999999999) (hm:m<=999999999) (hd:d<=999999999) (hh:h<=999999999) (hmi:mi<=999999999) (hc:c<=999999999) (hn:nanos<=999999999) (w:World):
 Calls prog 132 #[.agg #[.bool true,.bool true,.bool false,.int .i64 (y:Int),.int .i64 (m:Int),.int .i64 (d:Int),.int .i64 (h:Int),.int .i64 (mi:Int),.int .i64 (c:Int),.int .i64 (nanos:Int),.int .i64 off,.bool late]] w fun e w'=>e=.returned (.string ⟨((dateS y m d++[84]++clkS h mi c nanos):Gr.Str).toArray⟩)/\Below w.heap.size w w':=by
 simpa using zdp true true false y m d h mi c nanos off late hy hm hd hh hmi hc hn w
theorem zqh (y m d h mi c nanos:Nat) (off:Int) (late:Bool) (hy:y<=999999999) (hm:m<=999999999) (hd:d<=999999999) (hh:h<=999999999) (hmi:mi<=999999999) (hc:c<=999999999) (hn:nanos<=999999999) (w:World):
 Calls prog 132 #[.agg #[.bool true,.bool true,.bool true,.int .i64 (y:Int),.int .i64 (m:Int),.int .i64 (d:Int),.int .i64 (h:Int),.int .i64 (mi:Int),.int .i64 (c:Int),.int .i64 (nanos:Int),.int .i64 off,.bool late]] w fun e w'=>e=.returned (.string ⟨((dateS y m d++[84]++clkS h mi c nanos++[90]):Gr.Str).toArray⟩)/\Below w.heap.size w w':=by
 simpa using zdp true true true y m d h mi c nanos off late hy hm hd hh hmi hc hn w
structure MoOk (x:Gr.Mo):Prop where
 y:x.y<=9999
 m:x.m<=99
 d:x.d<=99
 h:x.h<=99
 mi:x.mi<=99
 c:x.c<=99
 nanos:x.nanos<=999999999
 zh:x.zh<=99
 zm:x.zm<=99
 sh:(x.date=true/\x.time=true)\/(x.date=true/\x.time=false/\x.z=0)\/(x.date=false/\x.time=true/\x.z=0)
 z0:x.z=0->x.zh=0/\x.zm=0
theorem numAt2 {s:Gr.Str} {a v:Nat} (h:numAt s a 2=some v):v<=99:=by
 have:=(zcw h (by omega)).2.1;omega
theorem numAt4 {s:Gr.Str} {a v:Nat} (h:numAt s a 4=some v):v<=9999:=by
 have:=(zcw h (by omega)).2.1;omega
theorem zld {s:Gr.Str} {a:Nat} {k:Gr.Ck} (h:clockAt s a=some k):k.h<=99/\k.m<=99/\k.s<=99/\k.nanos<=999999999:=by
 unfold clockAt at h;split at h
 .rename_i h1 h2 h3;have b:=numAt2 h1;have f:=numAt2 h2;have c:=numAt2 h3;split at h
  .split at h
   .split at h
    .cases h
    .rename_i hn;injection h with h
     subst h;refine⟨b,f,c,?_⟩;have e:=zd9 (s.drop (a+9));have d:=ze1 _ e;generalize (s.drop (a+9)).takeWhile Gr.dig=l at *;have:Gr.val l*10 ^ (9-l.length)<10 ^ l.length*10 ^ (9-l.length):=Nat.mul_lt_mul_of_pos_right d (Nat.pow_pos (by omega));rw[<-Nat.pow_add,show l.length+(9-l.length)=9 from by omega]at this;show Gr.val l*10 ^ (9-l.length)<=999999999;omega
   .grind
  .cases h
 .cases h
theorem zwf {s:Gr.Str} {a:Nat} {z:Gr.Zn} (h:zoneAt s a=some z):z.h<=99/\z.m<=99:=by
 unfold zoneAt at h;split at h
 .grind
 .split at h
  .rename_i h1 h2;split at h
   .injection h with h;subst h;exact⟨numAt2 h1,numAt2 h2⟩
   .cases h
  .cases h
theorem zqi {s:Gr.Str} {x:Gr.Mo} (h:Gr.rd s=some x):MoOk x:=by
 unfold Gr.rd at h;split at h
 .split at h
  .rename_i k hk;obtain⟨a,f,b,c⟩:=zld hk;split at h
   .injection h with h;subst h
    exact⟨Nat.zero_le _,Nat.zero_le _,Nat.zero_le _,a,f,b,c,Nat.zero_le _,Nat.zero_le _,.inr (.inr ⟨rfl,rfl,rfl⟩),fun _=>⟨rfl,rfl⟩⟩
   .cases h
  .cases h
 .rename_i y m d hd;have o:y<=9999/\m<=99/\d<=99:=by
   unfold dateAt at hd;split at hd
   .rename_i h1 h2 h3;split at hd
    .injection hd with hd
     injection hd with e1 e2
     injection e2 with e2 e3
     subst e1 e2 e3;exact⟨numAt4 h1,numAt2 h2,numAt2 h3⟩
    .cases hd
   .cases hd
  obtain⟨g,j,i⟩:=o;split at h
  .injection h with h;subst h
   exact⟨g,j,i,Nat.zero_le _,Nat.zero_le _,Nat.zero_le _,Nat.zero_le _,Nat.zero_le _,Nat.zero_le _,.inr (.inl ⟨rfl,rfl,rfl⟩),fun _=>⟨rfl,rfl⟩⟩
  .split at h
   .split at h
    .cases h
    .rename_i k hk;obtain⟨a,f,b,c⟩:=zld hk;split at h
     .injection h with h;subst h
      exact⟨g,j,i,a,f,b,c,Nat.zero_le _,Nat.zero_le _,.inl ⟨rfl,rfl⟩,fun _=>⟨rfl,rfl⟩⟩
     .split at h
      .rename_i z hz;obtain⟨l,n⟩:=zwf hz;split at h
       .injection h with h;subst h
        exact⟨g,j,i,a,f,b,c,l,n,.inl ⟨rfl,rfl⟩,fun e=>absurd e (zqc hz)⟩
       .cases h
      .cases h
   .cases h
theorem zqj {x:Gr.Mo} (h:MoOk x):rngB x.date x.y x.m x.d x.h x.mi x.c (decide (23<x.zh) || decide (59<x.zm))=okR x:=by
 unfold rngB okR Cal.vld;have g:decide ((0:Int)<=(x.y:Int))=true:=by simp
 have a:decide ((x.y:Int)<=9999)=true:=by have:=h.y;simp;omega
 rw[g,a];have i:decide ((x.h:Int)<=23)=decide (x.h<=23):=by rw[Bool.eq_iff_iff];simp;omega
 have e:decide ((x.mi:Int)<=59)=decide (x.mi<=59):=by rw[Bool.eq_iff_iff];simp;omega
 have b:decide ((x.c:Int)<=59)=decide (x.c<=59):=by rw[Bool.eq_iff_iff];simp;omega
 have f:(!(decide (23<x.zh) || decide (59<x.zm)))=(decide (x.zh<=23) && decide (x.zm<=59)):=by rw[Bool.eq_iff_iff];simp
 rw[i,e,b,f];cases x.date<;>simp[Bool.and_assoc,Bool.and_comm,Bool.and_left_comm]
end Go.Proofs.YtpgmfihonmoliaaGreatDoor

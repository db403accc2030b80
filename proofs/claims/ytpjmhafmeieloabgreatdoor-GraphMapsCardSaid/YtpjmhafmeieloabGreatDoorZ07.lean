import Derived.Test.YtpjmhafmeieloabGreatDoorZ06
namespace Go.Proofs.YtpjmhafmeieloabGreatDoor
open _root_.Go.Proofs.Tryz
open _root_.Go.Lib (hid)
set_option maxRecDepth 100000
set_option maxHeartbeats 16000000
open Go.RowKit
structure TF (y:TL) (sv zv:Value) (w w':World) (sv' zv':Value):Prop where
 os:w'.os=w.os
 tape:w'.tape=w.tape
 output:w'.output=w.output
 size:w.heap.size<=w'.heap.size
 block:∀k,k<w.heap.size->k≠y.bN->k≠y.rI->k≠y.rL->k≠y.rC->k≠y.rO->k≠y.bS->k≠y.bZ->sv.ownBlock≠some k->zv.ownBlock≠some k->w'.heap[k]? =w.heap[k]?
 fs:∀k,sv'.ownBlock=some k->sv.ownBlock=some k\/w.heap.size<=k
 fz:∀k,zv'.ownBlock=some k->zv.ownBlock=some k\/w.heap.size<=k
section
variable {y:TL} {sv zv sv' zv' sv2 zv2:Value} {w w' w2:World}
theorem TF.refl (y:TL) (sv zv:Value) (w:World):TF y sv zv w w sv zv:=⟨rfl,rfl,rfl,Nat.le_refl _,fun _ _ _ _ _ _ _ _ _ _ _=>rfl,fun _ h=>.inl h,fun _ h=>.inl h⟩
theorem TF.trans (h:TF y sv zv w w' sv' zv') (h2:TF y sv' zv' w' w2 sv2 zv2):TF y sv zv w w2 sv2 zv2:=by
 refine⟨h2.os.trans h.os,h2.tape.trans h.tape,h2.output.trans h.output,Nat.le_trans h.size h2.size,?_,?_,?_⟩
 .intro k i m f l b j g n d a;refine(h2.block k (Nat.lt_of_lt_of_le i h.size) m f l b j g n (fun e=>?_) (fun e=>?_)).trans (h.block k i m f l b j g n d a)
  .rcases h.fs k e with h3|h3
   .exact d h3
   .omega
  .rcases h.fz k e with h3|h3
   .exact a h3
   .omega
 .intro k e;rcases h2.fs k e with h3|h3
  .exact h.fs k h3
  .exact .inr (Nat.le_trans h.size h3)
 .intro k e;rcases h2.fz k e with h3|h3
  .exact h.fz k h3
  .exact .inr (Nat.le_trans h.size h3)
theorem TF.of_below (hb:Below w.heap.size w w'):TF y sv zv w w' sv zv:=⟨hb.os,hb.tape,hb.output,hb.size,fun k a _ _ _ _ _ _ _ _ _=>hb.block k a,fun _ h=>.inl h,fun _ h=>.inl h⟩
theorem TF.alloc (h:TF y sv zv w w' sv' zv') (o:Obj):TF y sv zv w (w'.alloc o) sv' zv':=h.trans (TF.of_below ((Below.refl _ _).alloc (Nat.le_refl _) o))
theorem TF.drewN (h:TF y sv zv w w' sv' zv') (n:Nat):TF y sv zv w (w'.drewN n) sv' zv':=h.trans (TF.of_below (below_drewN (Below.refl _ _) n))
theorem TF.drew (h:TF y sv zv w w' sv' zv'):TF y sv zv w w'.drew sv' zv':=h.drewN 1
theorem TF.set (h:TF y sv zv w w' sv' zv') (g i:Nat) (hg:g=y.bN\/g=y.rI\/g=y.rL\/g=y.rC\/g=y.rO\/g=y.bS\/g=y.bZ) (u:Value):TF y sv zv w (w'.setCell ⟨g,i,none⟩ u) sv' zv':=by
 refine h.trans ⟨rfl,rfl,rfl,by simp[World.setCell],?_,fun _ h=>.inl h,fun _ h=>.inl h⟩;intro k _ a1 a2 a3 a4 a5 a6 a7 _ _;refine Below.heap_setCell _ _ _ _ ?_;show k≠g;rcases hg with rfl|rfl|rfl|rfl|rfl|rfl|rfl<;>assumption
theorem TF.blk (h:TF y sv zv w w' sv' zv') {k:Nat} {t:TypeId} {cs:Array Value} (hb:Blk w k t cs) (a1:k≠y.bN) (a2:k≠y.rI) (a3:k≠y.rL) (a4:k≠y.rC) (a5:k≠y.rO) (a6:k≠y.bS) (a7:k≠y.bZ) (a8:sv.ownBlock≠some k) (a9:zv.ownBlock≠some k):Blk w' k t cs:=
 (h.block k hb.lt a1 a2 a3 a4 a5 a6 a7 a8 a9).trans hb
end
theorem TF.grownS {B D:Nat} {A:Option Addr} {c:Nat} {root:Int} {vs:List NV} {ns:List Gr.Nd} {s:Gr.TS} {y:TL} {sv zv sv2:Value} {w w2:World} (_h:TAt y B D A c root vs ns w s sv zv) (hg:w.grownBy w2 sv.ownBlock) (hat:sv2.ownBlock=sv.ownBlock\/sv2.ownBlock=some w.heap.size):
 TF y sv zv w (w2.setCell ⟨y.bS,0,none⟩ sv2) sv2 zv:=by
 have a:Below 0 w w2:=(Below.refl 0 w).grown hg (Nat.zero_le _) (fun _ _=>Nat.zero_le _);have h1:TF y sv zv w w2 sv2 zv:=⟨a.os,a.tape,a.output,a.size,fun k d _ _ _ _ _ _ _ b _=>hg.block k d (fun e=>b e.symm),fun k e=>by
  rcases hat with h1|h1
  .exact .inl (h1.symm.trans e)
  .right;rw[h1]at e;injection e with e;omega,fun _ e=>.inl e⟩
 exact h1.set y.bS 0 (by simp) _
theorem TF.grownZ {B D:Nat} {A:Option Addr} {c:Nat} {root:Int} {vs:List NV} {ns:List Gr.Nd} {s:Gr.TS} {y:TL} {sv zv zv2:Value} {w w2:World} (_h:TAt y B D A c root vs ns w s sv zv) (hg:w.grownBy w2 zv.ownBlock) (hat:zv2.ownBlock=zv.ownBlock\/zv2.ownBlock=some w.heap.size):
 TF y sv zv w (w2.setCell ⟨y.bZ,0,none⟩ zv2) sv zv2:=by
 have a:Below 0 w w2:=(Below.refl 0 w).grown hg (Nat.zero_le _) (fun _ _=>Nat.zero_le _);have h1:TF y sv zv w w2 sv zv2:=⟨a.os,a.tape,a.output,a.size,fun k d _ _ _ _ _ _ _ _ b=>hg.block k d (fun e=>b e.symm),fun _ e=>.inl e,fun k e=>by
  rcases hat with h1|h1
  .exact .inl (h1.symm.trans e)
  .right;rw[h1]at e;injection e with e;omega⟩
 exact h1.set y.bZ 0 (by simp) _
structure ABox (y:TL) (D:Nat) (w:World) (sv zv:Value) (bA v:Nat):Prop where
 b:Blk w bA 3 #[.int .i64 (v:Int)]
 hi:D<=bA
 s:sv.ownBlock≠some bA
 z:zv.ownBlock≠some bA
theorem ABox.kept {y:TL} {B D:Nat} {w w':World} {sv zv sv' zv':Value} {bA v:Nat} (h:ABox y D w sv zv bA v) (ok:TLok y B D) (hf:TF y sv zv w w' sv' zv'):ABox y D w' sv' zv' bA v:=by
 have hhi:=h.hi;have hlt:=h.b.lt;have:=ok.dN;have:=ok.dI;have:=ok.dL;have:=ok.dC;have:=ok.dO;have:=ok.dS;have:=ok.dZ;refine⟨hf.blk h.b (by omega) (by omega) (by omega) (by omega) (by omega) (by omega) (by omega) h.s h.z,h.hi,fun e=>?_,fun e=>?_⟩
 .rcases hf.fs _ e with h1|h1
  .exact h.s h1
  .omega
 .rcases hf.fz _ e with h1|h1
  .exact h.z h1
  .omega
def TPost (y:TL) (B D:Nat) (A:Option Addr) (c:Nat) (root:Int) (vs:List NV) (ns:List Gr.Nd) (w:World) (sv zv:Value) (s':Gr.TS) (e:Ending) (w':World):Prop:=
 e=.returned (.tuple #[])/\∃sv' zv',TAt y B D A c root vs ns w' s' sv' zv'/\TF y sv zv w w' sv' zv'
section
variable {y:TL} {B D:Nat} {A:Option Addr} {c:Nat} {root:Int} {vs:List NV} {ns:List Gr.Nd}
theorem zvy (w:World) (s:Gr.TS) (sv zv:Value) (bA v x:Nat) (h:TAt y B D A c root vs ns w s sv zv) (hA:ABox y D w sv zv bA v) (_hl:ns.length<=1073741823) (hv:v<ns.length) (hx:x<ns.length) (li:s.idx.length=ns.length) (ll:s.low.length=ns.length) (lo:s.on.length=ns.length)
 (hi:s.ix x≠0) (hon:s.onn x=true) (_hb1:s.lw v<=1073741824) (_hb2:s.ix x<=1073741824):
 Calls prog 61 #[.int .i64 x,.pointer (some ⟨y.bI,0,none⟩),.pointer (some ⟨y.bV,0,none⟩),.pointer (some ⟨y.bL,0,none⟩),.pointer (some ⟨bA,0,none⟩),.pointer (some ⟨y.bO,0,none⟩)] w (TPost y B D A c root vs ns w sv zv (s.lower v (s.ix x))):=by
 have i0:w.cell? ⟨y.bI,0,none⟩=some (.slice (some ⟨y.rI,0,none⟩) ns.length ns.length):=h.xI.cell 0;have l0:w.cell? ⟨y.bL,0,none⟩=some (.slice (some ⟨y.rL,0,none⟩) ns.length ns.length):=h.xL.cell 0;have o0:w.cell? ⟨y.bO,0,none⟩=some (.slice (some ⟨y.rO,0,none⟩) ns.length ns.length):=h.xO.cell 0;have a0:w.cell? ⟨bA,0,none⟩=some (.int .i64 (v:Int)):=hA.b.cell 0;obtain⟨p,a⟩:=ex (s.ix x)
 obtain⟨q,d⟩:=ex (s.lw v)
 have ix:w.cell? ⟨y.rI,x,none⟩=some (.int .i64 (p:Int)):=by rw[h.rI.cell,zad (by omega),<-a];rfl
 have lv:w.cell? ⟨y.rL,v,none⟩=some (.int .i64 (q:Int)):=by rw[h.rL.cell,zad (by omega),<-d];rfl
 have ox:w.cell? ⟨y.rO,x,none⟩=some (.bool true):=by rw[h.rO.cell,zah (by omega)];show some (Value.bool (s.onn x))=_;rw[hon]
 have lf:∀i,w.frozen? ⟨y.rL,i,none⟩=false:=h.rL.frozen;have hvI:(v:Int)<(ns.length:Int):=by omega
 have hxI:(x:Int)<(ns.length:Int):=by omega
 rw[a]at hi _hb2;rw[d]at _hb1;have e:¬((p:Int)=0):=by omega
 have hpb:((p:Int)==0)=false:=by simpa using e
 have f:Hid (s.lower v p={s with low:=s.low.set v (min q p)}):=hid (by unfold Gr.TS.lower;rw[d]);have H:=hid h;rw[a];clear h hA hon a d;go_enter func61,ntmps61;go_upto_region 4 with fail;go_region
 all_goals go_wp2_with fail
 all_goals
  go_end0;refine⟨rfl,sv,zv,?_,((TF.refl _ _ _ _).set y.rL v (by simp) _).drew⟩;rw[f.out]
  first
   | (rw[show min q p=q from by omega];exact(H.out.setL v q).drew)
   | (rw[show min (q:Int) (p:Int)=((min q p:Nat):Int)from by omega];exact(H.out.setL v (min q p)).drew)
   | (rw[show min q p=p from by omega];exact(H.out.setL v p).drew)
theorem zsv (w:World) (s:Gr.TS) (sv zv:Value) (bA x:Nat) (h:TAt y B D A c root vs ns w s sv zv) (_hl:ns.length<=1073741823) (hx:x<ns.length) (li:s.idx.length=ns.length) (lo:s.on.length=ns.length)
 (hi:s.ix x≠0) (hon:s.onn x=false) (_hb2:s.ix x<=1073741824):
 Calls prog 61 #[.int .i64 x,.pointer (some ⟨y.bI,0,none⟩),.pointer (some ⟨y.bV,0,none⟩),.pointer (some ⟨y.bL,0,none⟩),.pointer (some ⟨bA,0,none⟩),.pointer (some ⟨y.bO,0,none⟩)] w (TPost y B D A c root vs ns w sv zv s):=by
 have i0:w.cell? ⟨y.bI,0,none⟩=some (.slice (some ⟨y.rI,0,none⟩) ns.length ns.length):=h.xI.cell 0;have o0:w.cell? ⟨y.bO,0,none⟩=some (.slice (some ⟨y.rO,0,none⟩) ns.length ns.length):=h.xO.cell 0;obtain⟨p,a⟩:=ex (s.ix x)
 have ix:w.cell? ⟨y.rI,x,none⟩=some (.int .i64 (p:Int)):=by rw[h.rI.cell,zad (by omega),<-a];rfl
 have ox:w.cell? ⟨y.rO,x,none⟩=some (.bool false):=by rw[h.rO.cell,zah (by omega)];show some (Value.bool (s.onn x))=_;rw[hon]
 have hxI:(x:Int)<(ns.length:Int):=by omega
 rw[a]at hi _hb2;have b:¬((p:Int)=0):=by omega
 have hpb:((p:Int)==0)=false:=by simpa using b
 have H:=hid h;clear h hon a;go_enter func61,ntmps61;go_wp2_with fail;go_end0;exact⟨rfl,sv,zv,H.out,TF.refl _ _ _ _⟩
theorem zsw (w:World) (s s2:Gr.TS) (sv zv:Value) (bA v x:Nat) (h:TAt y B D A c root vs ns w s sv zv) (hA:ABox y D w sv zv bA v) (_hl:ns.length<=1073741823) (hv:v<ns.length) (hx:x<ns.length) (li:s.idx.length=ns.length) (ll:s2.low.length=ns.length)
 (hi:s.ix x=0) (_hb1:s2.lw v<=1073741824) (_hb2:s2.lw x<=1073741824) (hcall:Calls prog 60 (y.args (.int .i64 x)) w (TPost y B D A c root vs ns w sv zv s2)):
 Calls prog 61 #[.int .i64 x,.pointer (some ⟨y.bI,0,none⟩),.pointer (some ⟨y.bV,0,none⟩),.pointer (some ⟨y.bL,0,none⟩),.pointer (some ⟨bA,0,none⟩),.pointer (some ⟨y.bO,0,none⟩)] w (TPost y B D A c root vs ns w sv zv (s2.lower v (s2.lw x))):=by
 have z:w.cell? ⟨y.bI,0,none⟩=some (.slice (some ⟨y.rI,0,none⟩) ns.length ns.length):=h.xI.cell 0;have m:w.cell? ⟨y.bV,0,none⟩=some y.fn:=h.xV.cell 0;have ix:w.cell? ⟨y.rI,x,none⟩=some (.int .i64 0):=by rw[h.rI.cell,zad (by omega)];show some (Value.int .i64 ((s.ix x:Nat):Int))=_;rw[hi];rfl
 have hvI:(v:Int)<(ns.length:Int):=by omega
 have hxI:(x:Int)<(ns.length:Int):=by omega
 have n:=hid hcall;have r:=hid hA;obtain⟨p,j⟩:=ex (s2.lw x)
 obtain⟨q,g⟩:=ex (s2.lw v)
 have o:=hid j;have t:=hid g;have u:Hid (s2.lower v p={s2 with low:=s2.low.set v (min q p)}):=hid (by unfold Gr.TS.lower;rw[g]);have k:=hid h.ok;rw[j]at _hb2 ⊢;rw[g]at _hb1;unfold TL.fn at m;unfold TL.args at n;clear h hA hcall j g;go_enter func61,ntmps61;go_wp2_with fail;refine n.out.mono ?_;rintro e w2 ⟨rfl,sv2,zv2,d,a⟩;have f:=r.out.kept k.out a;have l0:w2.cell? ⟨y.bL,0,none⟩=some (.slice (some ⟨y.rL,0,none⟩) ns.length ns.length):=d.xL.cell 0;have a0:w2.cell? ⟨bA,0,none⟩=some (.int .i64 (v:Int)):=f.b.cell 0;have lx:w2.cell? ⟨y.rL,x,none⟩=some (.int .i64 (p:Int)):=by rw[d.rL.cell,zad (by omega),<-o.out];rfl
 have lv:w2.cell? ⟨y.rL,v,none⟩=some (.int .i64 (q:Int)):=by rw[d.rL.cell,zad (by omega),<-t.out];rfl
 have lf:∀i,w2.frozen? ⟨y.rL,i,none⟩=false:=d.rL.frozen;have H:=hid d;have l:=hid a;clear z m ix d a f;go_upto_region 2 with fail;go_region
 all_goals go_wp2_with fail
 all_goals
  go_end0;refine⟨rfl,sv2,zv2,?_,(l.out.set y.rL v (by simp) _).drew⟩;rw[u.out]
  first
   | (rw[show min q p=q from by omega];exact(H.out.setL v q).drew)
   | (rw[show min (q:Int) (p:Int)=((min q p:Nat):Int)from by omega];exact(H.out.setL v (min q p)).drew)
   | (rw[show min q p=p from by omega];exact(H.out.setL v p).drew)
end
open Gr
def tlv:Nat->Code->Code
 | 0,c=>c
 |n+1,.seq _ b=>tlv n b
 |_+1,c=>c
section
variable {y:TL} {B D:Nat} {A:Option Addr} {c:Nat} {root:Int} {vs:List NV} {ns:List Gr.Nd}
theorem zsx (w:World) (s:Gr.TS) (vis:Gr.TS->Nat->Gr.TS) (sv zv:Value) (bA v x:Nat) (h:TAt y B D A c root vs ns w s sv zv) (hA:ABox y D w sv zv bA v) (hl:ns.length<=1073741823) (hv:v<ns.length) (hx:x<ns.length)
 (li:s.idx.length=ns.length) (ll:s.low.length=ns.length) (lo:s.on.length=ns.length) (hb1:s.lw v<=1073741824) (hb2:s.ix x<=1073741824)
 (hnew:s.ix x=0->(vis s x).low.length=ns.length/\(vis s x).lw v<=1073741824/\(vis s x).lw x<=1073741824/\Calls prog 60 (y.args (.int .i64 x)) w (TPost y B D A c root vs ns w sv zv (vis s x))):
 Calls prog 61 #[.int .i64 x,.pointer (some ⟨y.bI,0,none⟩),.pointer (some ⟨y.bV,0,none⟩),.pointer (some ⟨y.bL,0,none⟩),.pointer (some ⟨bA,0,none⟩),.pointer (some ⟨y.bO,0,none⟩)] w (TPost y B D A c root vs ns w sv zv (tstep vis v s x)):=by
 unfold tstep;by_cases hi:s.ix x=0
 .rw[if_pos hi];obtain⟨e,a,b,d⟩:=hnew hi;exact zsw w s (vis s x) sv zv bA v x h hA hl hv hx li e hi a b d
 .rw[if_neg hi];by_cases hon:s.onn x=true
  .rw[if_pos hon];exact zvy w s sv zv bA v x h hA hl hv hx li ll lo hi hon hb1 hb2
  .rw[if_neg hon];exact zsv w s sv zv bA x h hl hx li lo hi (by simpa using hon) hb2
theorem zpe (hr:Refs ns) (hl:ns.length<=1073741823) {f:Nat} {s0:Gr.TS} {v:Nat} {G:Nat->Prop} (hI:Gr.Inv (Gr.succ ns) ns.length G s0) (hv:v<ns.length) (hv0:s0.ix v=0) (hg:∀g,G g->Gr.Reach (Gr.succ ns) g v) (hu:unv ns.length s0<=f+1)
 (ih:∀(s:Gr.TS) (v:Nat) (G:Nat->Prop) (w:World) (sv zv:Value),TAt y B D A c root vs ns w s sv zv->Gr.Inv (Gr.succ ns) ns.length G s->v<ns.length->s.ix v=0->(∀g,G g->Gr.Reach (Gr.succ ns) g v)->unv ns.length s<=f->
   Calls prog 60 (y.args (.int .i64 v)) w (TPost y B D A c root vs ns w sv zv (tvisit (Gr.succ ns) f s v)))
 {k:Nat} (hk:k<(Gr.succ ns v).length) (w:World) (sv zv:Value) (bA:Nat) (h:TAt y B D A c root vs ns w (((Gr.succ ns v).take k).foldl (tstep (tvisit (Gr.succ ns) f) v) (s0.push v)) sv zv) (hA:ABox y D w sv zv bA v):
 Calls prog 61 #[.int .i64 ((Gr.succ ns v)[k]:Nat),.pointer (some ⟨y.bI,0,none⟩),.pointer (some ⟨y.bV,0,none⟩),.pointer (some ⟨y.bL,0,none⟩),.pointer (some ⟨bA,0,none⟩),.pointer (some ⟨y.bO,0,none⟩)] w
  (TPost y B D A c root vs ns w sv zv (((Gr.succ ns v).take (k+1)).foldl (tstep (tvisit (Gr.succ ns) f) v) (s0.push v))):=by
 obtain⟨T,a,e⟩:=zd8 hr.succ f s0 v hI hv hv0 hg hu k (by omega);have d:(Gr.succ ns v)[k]∈Gr.succ ns v:=List.getElem_mem hk;have m:=hr.succ v _ d;rw[List.take_succ_eq_append_getElem hk,List.foldl_append];obtain⟨x,o⟩:=ex ((Gr.succ ns v)[k])
 rw[o]at d m ⊢;obtain⟨s,r⟩:=ex (((Gr.succ ns v).take k).foldl (tstep (tvisit (Gr.succ ns) f) v) (s0.push v))
 rw[r]at h a e ⊢;have b:∀u,s.ix u<=1073741823:=fun u=>by have:=a.inv.nx u;have:=a.inv.bn;omega
 refine zsx w s (tvisit (Gr.succ ns) f) sv zv bA v x h hA hl hv m a.inv.li a.inv.ll a.inv.lo (by have:=a.lwv;have:=b v;omega) (by have:=b x;omega) (fun p=>?_);have l:∀g,(G g\/g=v)->Gr.Reach (Gr.succ ns) g x:=by
  rintro g (h1|rfl)
  .exact(hg g h1).trans (.one d)
  .exact .one d
 obtain⟨q,i,j⟩:=zgi hr.succ f s x (fun u=>G u\/u=v) a.inv m p l e;have n:s.ix v≠0:=by rw[a.ixv];omega
 refine⟨i.ll,?_,?_,ih s x _ w sv zv h a.inv m p l e⟩
 .rw[j.klw v n];have:=a.lwv;have:=b v;omega
 .by_cases hm:x∈q
  .obtain⟨z,_,h1,_⟩:=j.att hm;have:=b z;omega
  .rw[(j.out hm).2];have:=i.nx x;have:=i.bn;omega
theorem TF.reval {sv zv sv' zv' sv2:Value} {w w':World} (h:TF y sv zv w w' sv' zv') (e:sv2.ownBlock=sv'.ownBlock):TF y sv zv w w' sv2 zv':=⟨h.os,h.tape,h.output,h.size,h.block,fun k a=>h.fs k (e▸a),h.fz⟩
theorem TAt.tfBelow {w w':World} {s:Gr.TS} {sv zv sv' zv':Value} (h:TAt y B D A c root vs ns w s sv zv) (hf:TF y sv zv w w' sv' zv'):Below B w w':=by
 refine⟨hf.os,hf.tape,hf.output,hf.size,fun k hk=>?_⟩;obtain⟨l1,l2,l3,l4,l5,l6,l7,l8⟩:=h.ok.lo;have:=h.hd;exact hf.block k (by omega) (by omega) (by omega) (by omega) (by omega) (by omega) (by omega) (by omega) (h.svD (by omega)) (h.zvD (by omega))
theorem zl4 (hr:Refs ns) (hl:ns.length<=1073741823) (hks:∀n∈ns,n.keys.length<=1073741823/\n.items.length<=1073741823) {f:Nat} {s:Gr.TS} {v:Nat} {G:Nat->Prop} (hI:Gr.Inv (Gr.succ ns) ns.length G s) (hv:v<ns.length) (hv0:s.ix v=0) (hg:∀g,G g->Gr.Reach (Gr.succ ns) g v) (hu:unv ns.length s<=f+1)
 (ih:∀(s:Gr.TS) (v:Nat) (G:Nat->Prop) (w:World) (sv zv:Value),TAt y B D A c root vs ns w s sv zv->Gr.Inv (Gr.succ ns) ns.length G s->v<ns.length->s.ix v=0->(∀g,G g->Gr.Reach (Gr.succ ns) g v)->unv ns.length s<=f->
   Calls prog 60 (y.args (.int .i64 v)) w (TPost y B D A c root vs ns w sv zv (tvisit (Gr.succ ns) f s v)))
 (w wc:World) (sv zv sv1:Value) (bA:Nat) (hT:TAt y B D A c root vs ns wc {s with next:=s.next+1,idx:=s.idx.set v (s.next+1),low:=s.low.set v (s.next+1),stk:=s.stk++[v]} sv1 zv) (hF:TF y sv zv w wc sv1 zv) (hA:ABox y D wc sv1 zv bA v)
 {u11 u12 u13 u14 u15 u16 u17 u18 u19 u20 u21 u22 u23 u24 u25 u26 u27 u28 u29 u30 u31 u32 u33 u34 u35 u36 u37 u38 u39 u40 u41 u42 u43 u44 u45 u46 u47 u48 u49 u50 u51 u52 u53 u54 u55 u56 u57 u58 u59 u60 u61 u62 u63 u64 u65 u66 u67 u68 u69 u70 u71 u72 u73 u74 u75 u76 u77 u78 u79 u80 u81 u82 u83 u84 u85 u86 u87 u88 u89 u90 u91 u92 u93 u94 u95 u96 u97 u98 u99 u100 u101 u102:Value}:
 Code.wp prog (tlv 4 (f60.body.getD .skip)) (bodyPost prog f60 (TPost y B D A c root vs ns w sv zv (tvisit (Gr.succ ns) (f+1) s v))) {tmps:=List.toArray (.int .i64 v::.pointer (some ⟨y.bN,0,none⟩)::.pointer (some ⟨y.bI,0,none⟩)::.pointer (some ⟨y.bL,0,none⟩)::.pointer (some ⟨y.bS,0,none⟩)::.pointer (some ⟨y.bO,0,none⟩)::.pointer (some ⟨y.bV,0,none⟩)::.pointer (some ⟨y.bG,0,none⟩)::.pointer (some ⟨y.bZ,0,none⟩)::.pointer (some ⟨y.bC,0,none⟩)::.pointer (some ⟨bA,0,none⟩)::u11::u12::u13::u14::u15::u16::u17::u18::u19::u20::u21::u22::u23::u24::u25::u26::u27::u28::u29::u30::u31::u32::u33::u34::u35::u36::u37::u38::u39::u40::u41::u42::u43::u44::u45::u46::u47::u48::u49::u50::u51::u52::u53::u54::u55::u56::u57::u58::u59::u60::u61::u62::u63::u64::u65::u66::u67::u68::u69::u70::u71::u72::u73::u74::u75::u76::u77::u78::u79::u80::u81::u82::u83::u84::u85::u86::u87::u88::u89::u90::u91::u92::u93::u94::u95::u96::u97::u98::u99::u100::u101::u102::[]),defers:=[]} wc:=by
 generalize hc0:tlv 4 (f60.body.getD .skip)=c0;simp only[tlv,f60,Option.getD_some]at hc0;subst hc0;have hvI:(v:Int)<(ns.length:Int):=by omega
 have t:=hid (fun(k:Nat) (hk:k<(Gr.succ ns v).length)=>zpe (y:=y) (B:=B) (D:=D) (A:=A) (c:=c) (root:=root) (vs:=vs) hr hl hI hv hv0 hg hu ih hk);have O:=hid (zd8 hr.succ f s v hI hv hv0 hg hu);have HI:=hid hI;have P:=hid hT.ok;have r:Hid (tvisit (Gr.succ ns) (f+1) s v=tfin ((Gr.succ ns v).foldl (tstep (tvisit (Gr.succ ns) f) v) (s.push v)) v):=hid rfl;obtain⟨st,aD⟩:∃st:Gr.TS->Nat->Gr.TS,tstep (tvisit (Gr.succ ns) f) v=st:=⟨_,rfl⟩
 rw[aD]at t O r;have o0:wc.cell? ⟨y.bO,0,none⟩=some (.slice (some ⟨y.rO,0,none⟩) ns.length ns.length):=hT.xO.cell 0;have a0:wc.cell? ⟨bA,0,none⟩=some (.int .i64 (v:Int)):=hA.b.cell 0;have of:∀i,wc.frozen? ⟨y.rO,i,none⟩=false:=hT.rO.frozen;have ov:wc.cell? ⟨y.rO,v,none⟩=some (.bool (s.onn v)):=by rw[hT.rO.cell,zah (by show v<s.on.length;rw[HI.out.lo];exact hv)];rfl
 have HT:=hid hT;have HF:=hid hF;have HA:=hid hA;clear hT hF hA hI hg hu ih aD;go_upto_region 6 with fail;obtain⟨M,ah⟩:=ex (wc.setCell ⟨y.rO,v,none⟩ (.bool true))
 have f4:TF y sv1 zv wc M sv1 zv:=by rw[<-ah];exact(TF.refl _ _ _ _).set y.rO v (by simp) _
 have h4:TAt y B D A c root vs ns M (s.push v) sv1 zv:=by rw[<-ah];exact HT.out.setO v true
 have aq:=HA.out.kept P.out f4;have aZ:=hid (HF.out.trans f4);(try rw[ah]);clear ah o0 a0 of ov HT HF HA f4;have aL:ns[v]∈ns:=List.getElem_mem hv;obtain⟨ar,a4⟩:=hks _ aL;have ap:Gr.succ ns v=ns[v].keys++ns[v].items:=by unfold Gr.succ;rw[List.getElem?_eq_getElem hv]
 obtain⟨u,k,i,rfl,hN⟩:=h4.at_.node hv;obtain⟨ka,kn,kc⟩:=k;obtain⟨ia,inn,ic⟩:=i;obtain⟨n,hn⟩:=ex (ns[v])
 rw[hn]at hN ar a4 ap;obtain rfl:kn=n.keys.length:=hN.kn;obtain rfl:inn=n.items.length:=hN.inn;have ab:=hid ap;have x3:=hN.c3;have g0:M.cell? ⟨y.bG,0,none⟩=some (.slice (some u) ns.length c):=h4.xG.cell 0;have a0:M.cell? ⟨bA,0,none⟩=some (.int .i64 (v:Int)):=aq.b.cell 0;have aI:=hid hN.keys;have ao:Hid (RowAt intL M B ia n.items/\M.cell? {block:=(u.add (v*5)).block,off:=(u.add (v*5)).off+4}=some (.slice ia n.items.length ic)/\(u.add (v*5)).block<B):=hid ⟨hN.items,hN.c4,hN.lt⟩;have H4:=hid h4;have aY:=hid aq;clear hN h4 aq hn aL ap;go_upto_region 7 with fail;clear x3 g0 a0;go_loopw [43] (fun s43 wr=>∃(k:Nat) (sk zk:Value),k<=n.keys.length/\s43=.int .i64 k/\Hid (TAt y B D (some u) c root vs ns wr (((Gr.succ ns v).take k).foldl st (s.push v)) sk zk/\TF y sv1 zv M wr sk zk/\ABox y D wr sk zk bA v)) (fun s43 _=>n.keys.length-(intOf s43).toNat)
 case atStart=>exact⟨0,sv1,zv,by omega,rfl,hid ⟨by simpa using H4.out,TF.refl _ _ _ _,aY.out⟩⟩
 case round=>
  obtain⟨k,sk,zk,hk,rfl,o⟩:=hrel;by_cases hlk:k<n.keys.length
  .have I:(k:Int)<(n.keys.length:Int):=by omega
   have E:k<(Gr.succ ns v).length:=by rw[ab.out,List.length_append];omega
   have F:(Gr.succ ns v)[k]=n.keys[k]:=by simp only[ab.out];exact List.getElem_append_left hlk
   obtain⟨x,hx⟩:=ex (n.keys[k])
   have hC:=t.out _ E wr sk zk bA o.out.1 o.out.2.2;rw[F,hx]at hC;obtain⟨aV,rfl,_,y0⟩:=zae (aI.out.below (H4.out.tfBelow o.out.2.1)) hlk;rw[hx]at y0;have HC:=hid hC;clear hC hx F E;go_wp2_with fail;refine HC.out.mono ?_;rintro e J ⟨rfl,z,C,Y,f5⟩;have Q:Hid (TAt y B D (some u) c root vs ns J (((Gr.succ ns v).take (k+1)).foldl st (s.push v)) z C/\TF y sv1 zv M J z C/\ABox y D J z C bA v):=hid ⟨Y,o.out.2.1.trans f5,o.out.2.2.kept P.out f5⟩;clear Y f5;go_wp2;go_roundw
   case rel=>exact⟨k+1,z,C,by omega,by go_num,Q⟩
   case measure=>simp[intOf];omega
  .have I:¬((k:Int)<(n.keys.length:Int)):=by omega
   have X:Hid (TAt y B D (some u) c root vs ns wr (((Gr.succ ns v).take (n.keys.length+0)).foldl st (s.push v)) sk zk/\TF y sv1 zv M wr sk zk/\ABox y D wr sk zk bA v):=hid (by
    have:=o.out;rw[show k=n.keys.length+0 from by omega]at this;exact this)
   have g0:wr.cell? ⟨y.bG,0,none⟩=some (.slice (some u) ns.length c):=X.out.1.xG.cell 0;have a0:wr.cell? ⟨bA,0,none⟩=some (.int .i64 (v:Int)):=X.out.2.2.b.cell 0;have x4:wr.cell? {block:=(u.add (v*5)).block,off:=(u.add (v*5)).off+4}=some (.slice ia n.items.length ic):=by
    rw[(H4.out.tfBelow X.out.2.1).cell (by exact ao.out.2.2)];exact ao.out.2.1
   clear o hk hlk aI;go_upto_region 12 with fail;clear g0 a0 x4 I;go_loopw [58] (fun s58 wr=>∃(k:Nat) (sk zk:Value),k<=n.items.length/\s58=.int .i64 k/\Hid (TAt y B D (some u) c root vs ns wr (((Gr.succ ns v).take (n.keys.length+k)).foldl st (s.push v)) sk zk/\TF y sv1 zv M wr sk zk/\ABox y D wr sk zk bA v)) (fun s58 _=>n.items.length-(intOf s58).toNat)
   case atStart=>exact⟨0,sk,zk,by omega,rfl,X⟩
   case round=>
    clear X;obtain⟨k,sk,zk,hk,rfl,o⟩:=hrel;by_cases hlk:k<n.items.length
    .have I:(k:Int)<(n.items.length:Int):=by omega
     have E:n.keys.length+k<(Gr.succ ns v).length:=by rw[ab.out,List.length_append];omega
     have F:(Gr.succ ns v)[n.keys.length+k]=n.items[k]:=by simp only[ab.out];rw[List.getElem_append_right (by omega)];congr 1;omega
     obtain⟨x,hx⟩:=ex (n.items[k])
     have hC:=t.out _ E wr sk zk bA o.out.1 o.out.2.2;rw[F,hx]at hC;obtain⟨aV,rfl,_,y0⟩:=zae (ao.out.1.below (H4.out.tfBelow o.out.2.1)) hlk;rw[hx]at y0;have HC:=hid hC;clear hC hx F E;go_wp2_with fail;refine HC.out.mono ?_;rintro e J ⟨rfl,z,C,Y,f5⟩;have Q:Hid (TAt y B D (some u) c root vs ns J (((Gr.succ ns v).take (n.keys.length+(k+1))).foldl st (s.push v)) z C/\TF y sv1 zv M J z C/\ABox y D J z C bA v):=hid ⟨Y,o.out.2.1.trans f5,o.out.2.2.kept P.out f5⟩;clear Y f5;go_wp2;go_roundw
     case rel=>exact⟨k+1,z,C,by omega,by go_num,Q⟩
     case measure=>simp[intOf];omega
    .have I:¬((k:Int)<(n.items.length:Int)):=by omega
     have aH:(Gr.succ ns v).length=n.keys.length+n.items.length:=by rw[ab.out,List.length_append]
     obtain⟨q,hq⟩:=ex ((Gr.succ ns v).foldl st (s.push v))
     have HQ:Hid (TAt y B D (some u) c root vs ns wr q sk zk/\TF y sv1 zv M wr sk zk/\ABox y D wr sk zk bA v):=hid (by
      have:=o.out;rw[show n.keys.length+k=(Gr.succ ns v).length from by omega,List.take_length,hq]at this;exact this)
     have U:Hid (∃T,Gr.Loop (Gr.succ ns) ns.length G s q v T (Gr.succ ns v)):=hid (by
      obtain⟨T,hT,_⟩:=O.out (Gr.succ ns v).length (Nat.le_refl _);rw[List.take_length,hq]at hT;exact⟨T,hT⟩)
     rw[hq]at r;clear hq aH o hk hlk t O;have aW:Hid (TF y sv zv w wr sk zk):=hid (aZ.out.trans HQ.out.2.1);have HB:Hid (q.low.length=ns.length/\q.idx.length=ns.length/\q.ix v<=1073741823/\q.lw v<=1073741823/\q.on.length=ns.length/\q.inn.length=ns.length/\q.stk.length<=1073741823/\q.sizes.length<=1073741823):=hid (by
      obtain⟨T,hT⟩:=U.out;have h1:=hT.inv.nx v;have h2:=hT.inv.bn;have h3:=hT.lwv;have h4:=hT.inv.bz;exact⟨hT.inv.ll,hT.inv.li,by omega,by omega,hT.inv.lo,hT.inv.lc,by omega,by omega⟩)
     obtain⟨qi,N⟩:=ex (q.ix v)
     obtain⟨ql,V⟩:=ex (q.lw v)
     have i0:wr.cell? ⟨y.bI,0,none⟩=some (.slice (some ⟨y.rI,0,none⟩) ns.length ns.length):=HQ.out.1.xI.cell 0;have l0:wr.cell? ⟨y.bL,0,none⟩=some (.slice (some ⟨y.rL,0,none⟩) ns.length ns.length):=HQ.out.1.xL.cell 0;have a0:wr.cell? ⟨bA,0,none⟩=some (.int .i64 (v:Int)):=HQ.out.2.2.b.cell 0;have iv:wr.cell? ⟨y.rI,v,none⟩=some (.int .i64 (qi:Int)):=by rw[HQ.out.1.rI.cell,zad (by rw[HB.out.2.1];exact hv),<-N];rfl
     have lv:wr.cell? ⟨y.rL,v,none⟩=some (.int .i64 (ql:Int)):=by rw[HQ.out.1.rL.cell,zad (by rw[HB.out.1];exact hv),<-V];rfl
     by_cases he:ql=qi
     .subst he;have aa:Hid (tvisit (Gr.succ ns) (f+1) s v=q.close v):=hid (by rw[r.out];unfold tfin;rw[if_pos (by rw[N,V])]);clear N V r;go_upto_region 16 with fail;go_quiet (fail);go_upto_region 18 with fail;obtain⟨T,hT⟩:=U.out;have ax:v∉T:=by
       have h1:=zd7 hT.inv.ord;rw[hT.stk,List.nodup_append]at h1;exact(List.nodup_cons.1 h1.2.1).1
      have aO:=hid hT.stk;have a1:=hid (zr7 hT.stk);have a8:=hid (zr6 hT.stk ax);have bb:Hid (∀x∈v::T,x<ns.length):=hid (fun x hx=>(hT.inv.stv x (by rw[hT.stk];exact List.mem_append_right _ hx)).1);have a9:=hid ax;have hTl:T.length<=1073741823:=by have:=HB.out.2.2.2.2.2.2.1;rw[hT.stk]at this;simp at this;omega
      obtain⟨j,m,ba,_⟩:=HQ.out.1.siz.form;subst ba;clear hT ax i0 l0 a0 iv lv;go_loopw [16] (fun s16 wp=>∃(k:Nat) (sk2:Value),k<=T.length/\s16=.int .i64 k/\Hid (TAt y B D (some u) c root vs ns wp ((T.reverse.take k).foldl Gr.TS.drop1 q) sk2 (.slice j q.sizes.length m)/\TF y sv zv w wp sk2 (.slice j q.sizes.length m)/\ABox y D wp sk2 (.slice j q.sizes.length m) bA v)) (fun s16 _=>T.length+1-(intOf s16).toNat)
      case atStart=>exact⟨0,sk,by omega,rfl,hid ⟨by simpa using HQ.out.1.drewN _,aW.out.drewN _,HQ.out.2.2.kept P.out ((TF.refl _ _ _ _).drewN _)⟩⟩
      case round=>
       obtain⟨k,sk2,hk,rfl,o⟩:=hrel;obtain⟨d1,d2,d3,d4⟩:=a1.out k hk;obtain⟨L,x,av,aJ,aA⟩:∃L x,s.stk++v::T.take (T.length-k)=L++[x]/\((k=T.length/\x=v)\/(k<T.length/\x≠v/\T.reverse.take (k+1)=T.reverse.take k++[x]))/\x<ns.length:=by
        by_cases hkT:k<T.length
        .refine⟨s.stk++v::T.take (T.length-(k+1)),T[T.length-(k+1)]'(by omega),?_,.inr ⟨hkT,fun e=>a9.out (e▸List.getElem_mem _),?_⟩,bb.out _ (.tail _ (List.getElem_mem _))⟩
         .have:=List.take_succ_eq_append_getElem (l:=T) (i:=T.length-(k+1)) (by omega);rw[show T.length-(k+1)+1=T.length-k from by omega]at this;rw[this];simp
         .have ar:k<T.reverse.length:=by simpa using hkT
          rw[List.take_succ_eq_append_getElem ar]
          congr 2
          rw[List.getElem_reverse]
          congr 1
          omega
        .refine⟨s.stk,v,?_,.inl ⟨by omega,rfl⟩,hv⟩;rw[show T.length-k=0 from by omega];simp
       rw[av]at d1;obtain⟨p,hp⟩:=ex ((T.reverse.take k).foldl Gr.TS.drop1 q)
       rw[hp]at d1 d2 d3 d4;have K:TAt y B D (some u) c root vs ns wr p sk2 (.slice j q.sizes.length m):=by have:=o.out.1;rw[hp]at this;exact this
       have d:=K.stk;rw[d1]at d;obtain⟨g,a,H,ak⟩:=d.shape (by simp);rw[List.length_append,List.length_cons,List.length_nil]at H ak;obtain⟨h,ae⟩:=ex L.length
       rw[ae]at H ak;obtain⟨A',c',am,aM⟩:=d.form;have a7:A'=some ⟨g,0,none⟩:=by rw[H]at am;injection am with e1 _ _;exact e1.symm
       subst a7;obtain⟨aV,e2,_,y0⟩:=zae (k:=h) aM (by simp;omega);injection e2 with e2
       subst e2;have aS:(L++[x])[h]'(by simp;omega)=x:=by subst ae;simp
       rw[aS]at y0;have y1:wr.cell? ⟨g,h,none⟩=some (.int .i64 (x:Int)):=by
        have e:(⟨g,0,none⟩:Addr).add h=⟨g,h,none⟩:=by unfold Addr.add;split<;>simp_all
        rwa[e]at y0
       have s0:wr.cell? ⟨y.bS,0,none⟩=some (.slice (some ⟨g,0,none⟩) (h+1) a):=by rw[K.bS.cell 0];show some sk2=_;rw[H]
       have sf:∀i,wr.frozen? ⟨y.bS,i,none⟩=false:=K.bS.frozen;have t1:((h:Int)+1-1)=(h:Int):=by omega
       have a2:=fun W=>zsu g (h+1) a h (by omega) W
       have hcapI:(h:Int)+1<=(a:Int):=by omega
       have hnb:h<=1073741823:=by
        have h1:=HB.out.2.2.2.2.2.2.1;have h2:(s.stk++v::T.take (T.length-k)).length=(L++[x]).length:=by rw[av]
        rw[aO.out]at h1;simp at h1 h2;omega
       have hxI:(x:Int)<(ns.length:Int):=by omega
       have aR:OwnRow intL wr D 3 (.slice (some ⟨g,0,none⟩) h a) L:=by
        have h1:OwnRow intL wr D 3 (.slice (some ⟨g,0,none⟩) (h+1) a) (L++[x]):=by rw[<-H];exact d
        have:=h1.drop1;rwa[ae]at this
       have au:(Value.slice (some ⟨g,0,none⟩) h a).ownBlock=sk2.ownBlock:=by rw[H];rfl
       have aP:∀k,(Value.slice (some ⟨g,0,none⟩) h a).ownBlock=some k->(Value.slice j q.sizes.length m).ownBlock≠some k:=fun k e=>K.apart k (au▸e)
       have aG:=hid K;have aQ:=hid aR;have aK:=hid au;have aB:=hid aP;have HD:Hid (p.sizes=q.sizes/\p.on.length=ns.length/\p.inn.length=ns.length/\p.stk=L++[x]):=hid ⟨d2,d3.trans HB.out.2.2.2.2.1,d4.trans HB.out.2.2.2.2.2.1,d1⟩;have aU:=hid hp;have aC:=hid aJ;clear aR au aP K d am aM y0 aS H ae d1 d2 d3 d4 hp av aJ;go_upto_region 20 with fail;obtain⟨J,ac⟩:=ex (wr.setCell ⟨y.bS,0,none⟩ (.slice (some ⟨g,0,none⟩) h a))
       have Y:TAt y B D (some u) c root vs ns J {p with stk:=L} (.slice (some ⟨g,0,none⟩) h a) (.slice j q.sizes.length m):=by rw[<-ac];exact aG.out.setS aQ.out aB.out
       have f5:TF y sk2 (.slice j q.sizes.length m) wr J (.slice (some ⟨g,0,none⟩) h a) (.slice j q.sizes.length m):=by rw[<-ac];exact((TF.refl _ _ _ _).set y.bS 0 (by simp) _).reval aK.out
       (try rw[ac]);have o0:J.cell? ⟨y.bO,0,none⟩=some (.slice (some ⟨y.rO,0,none⟩) ns.length ns.length):=Y.xO.cell 0;have ov:J.cell? ⟨y.rO,x,none⟩=some (.bool (p.on.getD x false)):=by rw[Y.rO.cell,zah (by rw[HD.out.2.1];exact aA)]
       have of:∀i,J.frozen? ⟨y.rO,i,none⟩=false:=Y.rO.frozen;have H5:=hid Y;have F5:=hid f5;clear ac Y f5 s0 sf y1 a2 aG aQ aB aK;go_upto_region 21 with fail;obtain⟨w6,af⟩:=ex (J.setCell ⟨y.rO,x,none⟩ (.bool false))
       have h6:TAt y B D (some u) c root vs ns w6 {p with stk:=L,on:=p.on.set x false} (.slice (some ⟨g,0,none⟩) h a) (.slice j q.sizes.length m):=by rw[<-af];exact H5.out.setO x false
       have f6:TF y sk2 (.slice j q.sizes.length m) wr w6 (.slice (some ⟨g,0,none⟩) h a) (.slice j q.sizes.length m):=by rw[<-af];exact F5.out.set y.rO x (by simp) _
       (try rw[af]);have c0:w6.cell? ⟨y.bC,0,none⟩=some (.slice (some ⟨y.rC,0,none⟩) ns.length ns.length):=h6.xC.cell 0;have z0:w6.cell? ⟨y.bZ,0,none⟩=some (.slice j q.sizes.length m):=h6.bZ.cell 0;have cv:w6.cell? ⟨y.rC,x,none⟩=some (.int .i64 (p.inn.getD x (-1))):=by rw[h6.rC.cell,zb4 (by rw[HD.out.2.2.1];exact aA)]
       have cf:∀i,w6.frozen? ⟨y.rC,i,none⟩=false:=h6.rC.frozen;have H6:=hid h6;have F6:=hid f6;clear af h6 f6 o0 ov of H5 F5;go_upto_region 22 with fail;obtain⟨w7,ag⟩:=ex (w6.setCell ⟨y.rC,x,none⟩ (.int .i64 (q.sizes.length:Int)))
       have h7:TAt y B D (some u) c root vs ns w7 (p.drop1 x) (.slice (some ⟨g,0,none⟩) h a) (.slice j q.sizes.length m):=by
        have:=H6.out.setC x (q.sizes.length:Int);rw[ag]at this;have e:p.drop1 x={p with stk:=L,on:=p.on.set x false,inn:=p.inn.set x (q.sizes.length:Int)}:=by
         unfold Gr.TS.drop1;rw[HD.out.2.2.2,HD.out.1,List.dropLast_concat]
        rw[e];exact this
       have f7:TF y sk2 (.slice j q.sizes.length m) wr w7 (.slice (some ⟨g,0,none⟩) h a) (.slice j q.sizes.length m):=by rw[<-ag];exact F6.out.set y.rC x (by simp) _
       (try rw[ag]);have aw:=o.out.2.2.kept P.out f7;have a0:w7.cell? ⟨bA,0,none⟩=some (.int .i64 (v:Int)):=aw.b.cell 0;have ay:=hid aw;have H7:=hid h7;have F7:=hid f7;clear ag h7 f7 c0 z0 cv cf H6 F6 aw;by_cases hkT:k<T.length
       .have R:=aC.out.resolve_left (fun e=>by omega);have S:¬((x:Int)=(v:Int)):=by have:=R.2.1;omega
        have aF:((x:Int)==(v:Int))=false:=by simpa using S
        have Q:Hid (TAt y B D (some u) c root vs ns w7 ((T.reverse.take (k+1)).foldl Gr.TS.drop1 q) (.slice (some ⟨g,0,none⟩) h a) (.slice j q.sizes.length m)/\TF y sv zv w w7 (.slice (some ⟨g,0,none⟩) h a) (.slice j q.sizes.length m)/\ABox y D w7 (.slice (some ⟨g,0,none⟩) h a) (.slice j q.sizes.length m) bA v):=hid ⟨by
         rw[R.2.2,List.foldl_append,aU.out];exact H7.out,o.out.2.1.trans F7.out,ay.out⟩
        clear R o;go_wp2;go_roundw
        case rel=>exact⟨k+1,_,by omega,by go_num,Q⟩
        case measure=>simp[intOf];omega
       .have R:=aC.out.resolve_right (fun e=>hkT e.1);obtain⟨aj,F⟩:=R;have S:(x:Int)=(v:Int):=by omega
        have aF:((x:Int)==(v:Int))=true:=by simpa using S
        have HX:Hid (q.close v={(p.drop1 x)with sizes:=q.sizes++[k+1]}):=hid (by
         rw[a8.out,<-aU.out,F,aj,List.take_of_length_le (by simp)])
        have aX:=hid (o.out.2.1.trans F7.out);have HO:Hid (OwnRow intL w7 D 3 (.slice j q.sizes.length m) q.sizes):=hid (by have:=H7.out.siz;rw[show(p.drop1 x).sizes=q.sizes from HD.out.1]at this;exact this);have z0:w7.cell? ⟨y.bZ,0,none⟩=some (.slice j q.sizes.length m):=H7.out.bZ.cell 0;have e0:=World.new_ne w7 _ z0;have hDw:=H7.out.hd;have hqs:q.sizes.length<=1073741823:=HB.out.2.2.2.2.2.2.2;clear F hkT o aj ay;go_upto_region 24 with fail;go_wp2_with (at_builtin;go_must (refine zaa _ rfl (.tmp 99) (.tmp 101) 38 3 8 rfl intT D (.slice j q.sizes.length m) q.sizes rfl (HO.out.alloc _) _ _ 1 [k+1] rfl (RowAt.lit1 _ _ rfl _ ?_) ?_ ?_ ?_))
        any_goals (first|rfl|omega| (simp;omega)| (rw[World.size_alloc];omega))
        intro v' w8 d hg az;have Z:=H7.out.alloc (.cells #[.int .i64 ((k:Int)+1)] 3);have an:Blk w8 y.bZ 38 _:=Z.bZ.grown hg (fun e=>zbz Z.siz Z.bZ (by decide) e.symm);have pc3:w8.cell? ⟨y.bZ,0,none⟩=some (.slice j q.sizes.length m):=an.cell 0;have pf3:∀i,w8.frozen? ⟨y.bZ,i,none⟩=false:=an.frozen;obtain⟨g3,ai,aE,_⟩:=d.shape (by simp);obtain⟨n3,aN⟩:=ex ((q.sizes++[k+1]).length)
        rw[aN]at aE;subst aE;have aT:=hid Z;have a3:=hid d;have HG:=hid hg;have a6:=hid az;clear Z d hg az an aN;go_wp2_with fail;go_end0;have al:(Value.slice (some ⟨g3,0,none⟩) n3 ai).ownBlock=(Value.slice j q.sizes.length m).ownBlock\/(Value.slice (some ⟨g3,0,none⟩) n3 ai).ownBlock=some (w7.alloc (.cells #[.int .i64 ((k:Int)+1)] 3)).heap.size:=by rw[World.size_alloc];exact a6.out
        have f8:=(aX.out.alloc (.cells #[.int .i64 ((k:Int)+1)] 3)).trans (TF.grownZ aT.out HG.out al);have h8:=aT.out.grownZ a3.out HG.out al;rw[aa.out,HX.out];exact⟨rfl,_,_,h8,f8⟩
     .have a5:¬((ql:Int)=(qi:Int)):=by omega
      have hneb:((ql:Int)==(qi:Int))=false:=by simpa using a5
      have aa:Hid (tvisit (Gr.succ ns) (f+1) s v=q):=hid (by rw[r.out];unfold tfin;rw[if_neg (by rw[N,V];exact he)]);clear N V r he;go_upto_region 16 with fail;go_quiet (fail);go_wp2_with fail;refine bodyPost_ret (v:=.tuple #[]) (by simp[results,results60,go_sem]) rfl ?_;rw[aa.out];exact⟨rfl,sk,zk,HQ.out.1.drewN _,aW.out.drewN _⟩
end
section
variable {y:TL} {B D:Nat} {A:Option Addr} {c:Nat} {root:Int} {vs:List NV} {ns:List Gr.Nd}
theorem zl5 (hr:Refs ns) (hl:ns.length<=1073741823) (hks:∀n∈ns,n.keys.length<=1073741823/\n.items.length<=1073741823):
 ∀(f:Nat) (s:Gr.TS) (v:Nat) (G:Nat->Prop) (w:World) (sv zv:Value),TAt y B D A c root vs ns w s sv zv->Gr.Inv (Gr.succ ns) ns.length G s->v<ns.length->s.ix v=0->(∀g,G g->Gr.Reach (Gr.succ ns) g v)->unv ns.length s<=f->
 Calls prog 60 (y.args (.int .i64 v)) w (TPost y B D A c root vs ns w sv zv (tvisit (Gr.succ ns) f s v)):=by
 intro f
 induction f with
 |zero=>
  intro s v G w sv zv h N V p t hu;have:=zee N V p;omega
 |succ f ih=>
  intro s v G w sv zv h N V p t hu;have hvI:(v:Int)<(ns.length:Int):=by omega
  have hnx:s.next<=1073741823:=by have:=N.bn;omega
  have hsl:s.stk.length<=1073741823:=by have:=N.bz;omega
  have IH:=hid ih;have O:Hid ((∀g,G g->Gr.Reach (Gr.succ ns) g v)/\unv ns.length s<=f+1):=hid ⟨t,hu⟩;have HI:=hid N;have a:=hid h.ok;have S:=h.alloc (.cells #[.int .i64 v] 3);have o:ABox y D (w.alloc (.cells #[.int .i64 v] 3)) sv zv w.heap.size v:=⟨Blk.new _ _ _,h.hd,fun e=>by have:=(h.stk.lt _ e).2;omega,fun e=>by have:=(h.siz.lt _ e).2;omega⟩
  have K:TF y sv zv w (w.alloc (.cells #[.int .i64 v] 3)) sv zv:=(TF.refl _ _ _ _).alloc _;have H:=hid h;clear ih N t hu h;unfold TL.args;go_enter func60,ntmps60;obtain⟨X,I⟩:=ex (w.alloc (.cells #[.int .i64 v] 3))
  rw[I]at S o K;obtain⟨C,J⟩:=ex w.heap.size
  have n0:X.cell? ⟨y.bN,0,none⟩=some (.int .i64 (s.next:Int)):=S.bN.cell 0;have nf:∀i,X.frozen? ⟨y.bN,i,none⟩=false:=S.bN.frozen;have hw:IntKind.i64.wrap ((s.next:Int)+1)=(s.next:Int)+1:=IntWalk.i64_in _ (by omega);go_upto_region 1 with fail;(try rw[I]);rw[J]at o;(try rw[J]);clear I J;go_upto_region 2 with fail;obtain⟨m,r⟩:=ex (X.setCell ⟨y.bN,0,none⟩ (.int .i64 ((s.next:Int)+1)))
  have L:TF y sv zv X m sv zv:=by rw[<-r];exact(TF.refl _ _ _ _).set y.bN 0 (.inl rfl) _
  have d:TAt y B D A c root vs ns m {s with next:=s.next+1} sv zv:=by rw[<-r];exact S.setN (s.next+1)
  have j:=o.kept a.out L;have W:=hid (K.trans L);rw[r];have i0:m.cell? ⟨y.bI,0,none⟩=some (.slice (some ⟨y.rI,0,none⟩) ns.length ns.length):=d.xI.cell 0;have l0:m.cell? ⟨y.bL,0,none⟩=some (.slice (some ⟨y.rL,0,none⟩) ns.length ns.length):=d.xL.cell 0;have a0:m.cell? ⟨C,0,none⟩=some (.int .i64 (v:Int)):=j.b.cell 0;have n1:m.cell? ⟨y.bN,0,none⟩=some (.int .i64 ((s.next:Int)+1)):=d.bN.cell 0;have rf:∀i,m.frozen? ⟨y.rI,i,none⟩=false:=d.rI.frozen;have lf:∀i,m.frozen? ⟨y.rL,i,none⟩=false:=d.rL.frozen;have xv:m.cell? ⟨y.rI,v,none⟩=some (.int .i64 0):=by
   rw[d.rI.cell,zad (by show v<s.idx.length;rw[HI.out.li];exact V)];show some (Value.int .i64 ((s.ix v:Nat):Int))=_;rw[p];rfl
  have yv:m.cell? ⟨y.rL,v,none⟩=some (.int .i64 ((s.lw v:Nat):Int)):=by
   rw[d.rL.cell,zad (by show v<s.low.length;rw[HI.out.ll];exact V)];rfl
  have q1:y.bN≠y.rI:=a.out.nI;have q2:y.bN≠y.rL:=a.out.nL;have q3:y.rI≠y.rL:=a.out.iL;have q4:y.rL≠y.rI:=a.out.iL.symm;have q5:y.bL≠y.rI:=d.xL.ne_ d.rI (by decide);have q6:y.bL≠y.rL:=d.xL.ne_ d.rL (by decide);have q7:y.bI≠y.rI:=d.xI.ne_ d.rI (by decide);have q8:y.bI≠y.rL:=d.xI.ne_ d.rL (by decide);have q9:C≠y.rI:=by have:=j.hi;have:=a.out.dI;omega
  have ab:C≠y.rL:=by have:=j.hi;have:=a.out.dL;omega
  have H2:=hid d;have P:=hid j;clear S o K n0 nf hw r L d j;go_cut [24] (fun _ M=>TAt y B D A c root vs ns M {s with next:=s.next+1,idx:=s.idx.set v (s.next+1),low:=s.low.set v (s.next+1)} sv zv/\TF y sv zv w M sv zv/\ABox y D M sv zv C v)
  case first=>
   go_region
   all_goals
    go_wp2;go_meet;exact⟨((H2.out.setI v (s.next+1)).setL v (s.next+1)).drew,((W.out.set y.rI v (by simp) _).set y.rL v (by simp) _).drew,
     P.out.kept a.out (((TF.refl _ _ _ _).set y.rI v (by simp) _).set y.rL v (by simp) _).drew⟩
  case rest=>
   obtain⟨z,Y,R⟩:=hcut;clear i0 l0 a0 n1 rf lf xv yv q1 q2 q3 q4 q5 q6 q7 q8 q9 ab H2 P W;obtain⟨As,cs,q,_⟩:=z.stk.form;have s0:wc.cell? ⟨y.bS,0,none⟩=some (.slice As s.stk.length cs):=by rw[z.bS.cell 0];show some sv=_;rw[q]
   have a0:wc.cell? ⟨C,0,none⟩=some (.int .i64 (v:Int)):=R.b.cell 0;have e0:=World.new_ne wc _ s0;have HO:Hid (OwnRow intL wc D 3 (.slice As s.stk.length cs) s.stk):=hid (by have:=z.stk;rw[q]at this;exact this);have ac:=hid q;have HT:=hid z;have HF:=hid Y;have HA:=hid R;have hDw:=z.hd;clear q z Y R;go_upto_region 3 with fail;go_cut [28] (fun _ M=>∃sv2,TAt y B D A c root vs ns M {s with next:=s.next+1,idx:=s.idx.set v (s.next+1),low:=s.low.set v (s.next+1),stk:=s.stk++[v]} sv2 zv/\TF y sv zv w M sv2 zv/\ABox y D M sv2 zv C v)
   case first=>
    go_wp2_with (at_builtin;go_must (refine zaa _ rfl (.tmp 28) (.tmp 30) 38 3 8 rfl intT D (.slice As s.stk.length cs) s.stk rfl (HO.out.alloc _) _ _ 1 [v] rfl (RowAt.lit1 _ _ rfl _ ?_) ?_ ?_ ?_))
    any_goals (first|rfl|omega| (simp;omega)| (rw[World.size_alloc];omega))
    intro v' w3 k t E;have l:=HT.out.alloc (.cells #[.int .i64 v] 3);rw[<-ac.out]at t E;have F:Blk w3 y.bS 38 _:=l.bS.grown t (fun e=>zbz l.stk l.bS (by decide) e.symm);have pc3:w3.cell? ⟨y.bS,0,none⟩=some sv:=F.cell 0;have pf3:∀i,w3.frozen? ⟨y.bS,i,none⟩=false:=F.frozen;obtain⟨g3,u,T,_⟩:=k.shape (by simp);obtain⟨n3,Q⟩:=ex ((s.stk++[v]).length)
    rw[Q]at T;subst T;have U:=hid l;have ad:=hid k;have HG:=hid t;have Z:=hid E;clear l k t E F Q;go_wp2;go_meet;have f1:=(TF.refl y sv zv wc).alloc (.cells #[.int .i64 v] 3);have x:(Value.slice (some ⟨g3,0,none⟩) n3 u).ownBlock=sv.ownBlock\/(Value.slice (some ⟨g3,0,none⟩) n3 u).ownBlock=some (wc.alloc (.cells #[.int .i64 v] 3)).heap.size:=by rw[World.size_alloc];exact Z.out
    have f2:=f1.trans (TF.grownS U.out HG.out x);exact⟨_,U.out.grownS ad.out HG.out x,HF.out.trans f2,HA.out.kept a.out f2⟩
   case rest=>
    obtain⟨aa,z,Y,R⟩:=hcut;rename_i hK0;apply hK0;exact zl4 hr hl hks HI.out V p O.out.1 O.out.2 IH.out w _ sv zv aa C z Y R
end
end Go.Proofs.YtpjmhafmeieloabGreatDoor

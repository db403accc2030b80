import Derived.Test.YtpgmfihonmoliaaGreatDoorZ07
import Derived.Test.YtpgmfihonmoliaaGreatDoorZ21
import Derived.Lib.AppendIntMem
namespace Go.Proofs.YtpgmfihonmoliaaGreatDoor
open _root_.Go.Proofs.Tryz
open _root_.Go.Lib (hid)
set_option maxRecDepth 100000
set_option maxHeartbeats 16000000
open Go.RowKit
structure TF (y:TL) (sv zv:Value) (w w':World) (sv' zv':Value):Prop where
 os:w'.os=w.os
 tape:w'.tape=w.tape
 output:w'.output=w.output
 size:w.heap.size<=w'.heap.size
 block:∀k,k<w.heap.size->k≠y.bN->k≠y.rI->k≠y.rL->k≠y.rC->k≠y.rO->k≠y.bS->k≠y.bZ->sv.ownBlock≠some k->zv.ownBlock≠some k->w'.heap[k]? =w.heap[k]?
 fs:∀k,sv'.ownBlock=some k->sv.ownBlock=some k\/w.heap.size<=k
 fz:∀k,zv'.ownBlock=some k->zv.ownBlock=some k\/w.heap.size<=k
section
variable {y:TL} {sv zv sv' zv' sv2 zv2:Value} {w w' w2:World}
theorem TF.refl (y:TL) (sv zv:Value) (w:World):TF y sv zv w w sv zv:=⟨rfl,rfl,rfl,Nat.le_refl _,fun _ _ _ _ _ _ _ _ _ _ _=>rfl,fun _ h=>.inl h,fun _ h=>.inl h⟩
theorem TF.trans (h:TF y sv zv w w' sv' zv') (h2:TF y sv' zv' w' w2 sv2 zv2):TF y sv zv w w2 sv2 zv2:=by
 refine⟨h2.os.trans h.os,h2.tape.trans h.tape,h2.output.trans h.output,Nat.le_trans h.size h2.size,?_,?_,?_⟩
 .intro k i f j a d b m l g n;refine(h2.block k (Nat.lt_of_lt_of_le i h.size) f j a d b m l (fun e=>?_) (fun e=>?_)).trans (h.block k i f j a d b m l g n)
  .rcases h.fs k e with h3|h3
   .exact g h3
   .omega
  .rcases h.fz k e with h3|h3
   .exact n h3
   .omega
 .intro k e;rcases h2.fs k e with h3|h3
  .exact h.fs k h3
  .exact .inr (Nat.le_trans h.size h3)
 .intro k e;rcases h2.fz k e with h3|h3
  .exact h.fz k h3
  .exact .inr (Nat.le_trans h.size h3)
theorem TF.of_below (hb:Below w.heap.size w w'):TF y sv zv w w' sv zv:=⟨hb.os,hb.tape,hb.output,hb.size,fun k a _ _ _ _ _ _ _ _ _=>hb.block k a,fun _ h=>.inl h,fun _ h=>.inl h⟩
theorem TF.alloc (h:TF y sv zv w w' sv' zv') (o:Obj):TF y sv zv w (w'.alloc o) sv' zv':=h.trans (TF.of_below ((Below.refl _ _).alloc (Nat.le_refl _) o))
theorem TF.drewN (h:TF y sv zv w w' sv' zv') (n:Nat):TF y sv zv w (w'.drewN n) sv' zv':=h.trans (TF.of_below (below_drewN (Below.refl _ _) n))
theorem TF.drew (h:TF y sv zv w w' sv' zv'):TF y sv zv w w'.drew sv' zv':=h.drewN 1
theorem TF.set (h:TF y sv zv w w' sv' zv') (g i:Nat) (hg:g=y.bN\/g=y.rI\/g=y.rL\/g=y.rC\/g=y.rO\/g=y.bS\/g=y.bZ) (u:Value):TF y sv zv w (w'.setCell ⟨g,i,none⟩ u) sv' zv':=by
 refine h.trans ⟨rfl,rfl,rfl,by simp[World.setCell],?_,fun _ h=>.inl h,fun _ h=>.inl h⟩;intro k _ a1 a2 a3 a4 a5 a6 a7 _ _;refine Below.heap_setCell _ _ _ _ ?_;show k≠g;rcases hg with rfl|rfl|rfl|rfl|rfl|rfl|rfl<;>assumption
theorem TF.blk (h:TF y sv zv w w' sv' zv') {k:Nat} {t:TypeId} {cs:Array Value} (hb:Blk w k t cs) (a1:k≠y.bN) (a2:k≠y.rI) (a3:k≠y.rL) (a4:k≠y.rC) (a5:k≠y.rO) (a6:k≠y.bS) (a7:k≠y.bZ) (a8:sv.ownBlock≠some k) (a9:zv.ownBlock≠some k):Blk w' k t cs:=
 (h.block k hb.lt a1 a2 a3 a4 a5 a6 a7 a8 a9).trans hb
end
theorem TF.grownS {B D:Nat} {A:Option Addr} {c:Nat} {root:Int} {vs:List NV} {ns:List Gr.Nd} {s:Gr.TS} {y:TL} {sv zv sv2:Value} {w w2:World} (_h:TAt y B D A c root vs ns w s sv zv) (hg:w.grownBy w2 sv.ownBlock) (hat:sv2.ownBlock=sv.ownBlock\/sv2.ownBlock=some w.heap.size):
 TF y sv zv w (w2.setCell ⟨y.bS,0,none⟩ sv2) sv2 zv:=by
 have a:Below 0 w w2:=(Below.refl 0 w).grown hg (Nat.zero_le _) (fun _ _=>Nat.zero_le _);have h1:TF y sv zv w w2 sv2 zv:=⟨a.os,a.tape,a.output,a.size,fun k b _ _ _ _ _ _ _ d _=>hg.block k b (fun e=>d e.symm),fun k e=>by
  rcases hat with h1|h1
  .exact .inl (h1.symm.trans e)
  .right;rw[h1]at e;injection e with e;omega,fun _ e=>.inl e⟩
 exact h1.set y.bS 0 (by simp) _
theorem TF.grownZ {B D:Nat} {A:Option Addr} {c:Nat} {root:Int} {vs:List NV} {ns:List Gr.Nd} {s:Gr.TS} {y:TL} {sv zv zv2:Value} {w w2:World} (_h:TAt y B D A c root vs ns w s sv zv) (hg:w.grownBy w2 zv.ownBlock) (hat:zv2.ownBlock=zv.ownBlock\/zv2.ownBlock=some w.heap.size):
 TF y sv zv w (w2.setCell ⟨y.bZ,0,none⟩ zv2) sv zv2:=by
 have a:Below 0 w w2:=(Below.refl 0 w).grown hg (Nat.zero_le _) (fun _ _=>Nat.zero_le _);have h1:TF y sv zv w w2 sv zv2:=⟨a.os,a.tape,a.output,a.size,fun k b _ _ _ _ _ _ _ _ d=>hg.block k b (fun e=>d e.symm),fun _ e=>.inl e,fun k e=>by
  rcases hat with h1|h1
  .exact .inl (h1.symm.trans e)
  .right;rw[h1]at e;injection e with e;omega⟩
 exact h1.set y.bZ 0 (by simp) _
structure ABox (y:TL) (D:Nat) (w:World) (sv zv:Value) (bA v:Nat):Prop where
 b:Blk w bA 3 #[.int .i64 (v:Int)]
 hi:D<=bA
 s:sv.ownBlock≠some bA
 z:zv.ownBlock≠some bA
theorem ABox.kept {y:TL} {B D:Nat} {w w':World} {sv zv sv' zv':Value} {bA v:Nat} (h:ABox y D w sv zv bA v) (ok:TLok y B D) (hf:TF y sv zv w w' sv' zv'):ABox y D w' sv' zv' bA v:=by
 have hhi:=h.hi;have hlt:=h.b.lt;have:=ok.dN;have:=ok.dI;have:=ok.dL;have:=ok.dC;have:=ok.dO;have:=ok.dS;have:=ok.dZ;refine⟨hf.blk h.b (by omega) (by omega) (by omega) (by omega) (by omega) (by omega) (by omega) h.s h.z,h.hi,fun e=>?_,fun e=>?_⟩
 .rcases hf.fs _ e with h1|h1
  .exact h.s h1
  .omega
 .rcases hf.fz _ e with h1|h1
  .exact h.z h1
  .omega
def TPost (y:TL) (B D:Nat) (A:Option Addr) (c:Nat) (root:Int) (vs:List NV) (ns:List Gr.Nd) (w:World) (sv zv:Value) (s':Gr.TS) (e:Ending) (w':World):Prop:=
 e=.returned (.tuple #[])/\∃sv' zv',TAt y B D A c root vs ns w' s' sv' zv'/\TF y sv zv w w' sv' zv'
section
variable {y:TL} {B D:Nat} {A:Option Addr} {c:Nat} {root:Int} {vs:List NV} {ns:List Gr.Nd}
theorem zva (w:World) (s:Gr.TS) (sv zv:Value) (bA v x:Nat) (h:TAt y B D A c root vs ns w s sv zv) (hA:ABox y D w sv zv bA v) (_hl:ns.length<=1073741823) (hv:v<ns.length) (hx:x<ns.length) (li:s.idx.length=ns.length) (ll:s.low.length=ns.length) (lo:s.on.length=ns.length)
 (hi:s.ix x≠0) (hon:s.onn x=true) (_hb1:s.lw v<=1073741824) (_hb2:s.ix x<=1073741824):
 Calls prog 64 #[.int .i64 x,.pointer (some ⟨y.bI,0,none⟩),.pointer (some ⟨y.bV,0,none⟩),.pointer (some ⟨y.bL,0,none⟩),.pointer (some ⟨bA,0,none⟩),.pointer (some ⟨y.bO,0,none⟩)] w (TPost y B D A c root vs ns w sv zv (s.lower v (s.ix x))):=by
 have i0:w.cell? ⟨y.bI,0,none⟩=some (.slice (some ⟨y.rI,0,none⟩) ns.length ns.length):=h.xI.cell 0;have l0:w.cell? ⟨y.bL,0,none⟩=some (.slice (some ⟨y.rL,0,none⟩) ns.length ns.length):=h.xL.cell 0;have o0:w.cell? ⟨y.bO,0,none⟩=some (.slice (some ⟨y.rO,0,none⟩) ns.length ns.length):=h.xO.cell 0;have a0:w.cell? ⟨bA,0,none⟩=some (.int .i64 (v:Int)):=hA.b.cell 0;obtain⟨p,a⟩:=ex (s.ix x)
 obtain⟨q,d⟩:=ex (s.lw v)
 have ix:w.cell? ⟨y.rI,x,none⟩=some (.int .i64 (p:Int)):=by rw[h.rI.cell,zab (by omega),<-a];rfl
 have lv:w.cell? ⟨y.rL,v,none⟩=some (.int .i64 (q:Int)):=by rw[h.rL.cell,zab (by omega),<-d];rfl
 have ox:w.cell? ⟨y.rO,x,none⟩=some (.bool true):=by rw[h.rO.cell,zae (by omega)];show some (Value.bool (s.onn x))=_;rw[hon]
 have lf:∀i,w.frozen? ⟨y.rL,i,none⟩=false:=h.rL.frozen;have hvI:(v:Int)<(ns.length:Int):=by omega
 have hxI:(x:Int)<(ns.length:Int):=by omega
 rw[a]at hi _hb2;rw[d]at _hb1;have e:¬((p:Int)=0):=by omega
 have hpb:((p:Int)==0)=false:=by simpa using e
 have f:Hid (s.lower v p={s with low:=s.low.set v (min q p)}):=hid (by unfold Gr.TS.lower;rw[d]);have H:=hid h;rw[a];clear h hA hon a d;go_enter func64,ntmps64;go_upto_region 4 with fail;go_region
 all_goals go_wp2_with fail
 all_goals
  go_end0;refine⟨rfl,sv,zv,?_,((TF.refl _ _ _ _).set y.rL v (by simp) _).drew⟩;rw[f.out]
  first
   | (rw[show min q p=q from by omega];exact(H.out.setL v q).drew)
   | (rw[show min (q:Int) (p:Int)=((min q p:Nat):Int)from by omega];exact(H.out.setL v (min q p)).drew)
   | (rw[show min q p=p from by omega];exact(H.out.setL v p).drew)
theorem zsb (w:World) (s:Gr.TS) (sv zv:Value) (bA x:Nat) (h:TAt y B D A c root vs ns w s sv zv) (_hl:ns.length<=1073741823) (hx:x<ns.length) (li:s.idx.length=ns.length) (lo:s.on.length=ns.length)
 (hi:s.ix x≠0) (hon:s.onn x=false) (_hb2:s.ix x<=1073741824):
 Calls prog 64 #[.int .i64 x,.pointer (some ⟨y.bI,0,none⟩),.pointer (some ⟨y.bV,0,none⟩),.pointer (some ⟨y.bL,0,none⟩),.pointer (some ⟨bA,0,none⟩),.pointer (some ⟨y.bO,0,none⟩)] w (TPost y B D A c root vs ns w sv zv s):=by
 have i0:w.cell? ⟨y.bI,0,none⟩=some (.slice (some ⟨y.rI,0,none⟩) ns.length ns.length):=h.xI.cell 0;have o0:w.cell? ⟨y.bO,0,none⟩=some (.slice (some ⟨y.rO,0,none⟩) ns.length ns.length):=h.xO.cell 0;obtain⟨p,b⟩:=ex (s.ix x)
 have ix:w.cell? ⟨y.rI,x,none⟩=some (.int .i64 (p:Int)):=by rw[h.rI.cell,zab (by omega),<-b];rfl
 have ox:w.cell? ⟨y.rO,x,none⟩=some (.bool false):=by rw[h.rO.cell,zae (by omega)];show some (Value.bool (s.onn x))=_;rw[hon]
 have hxI:(x:Int)<(ns.length:Int):=by omega
 rw[b]at hi _hb2;have a:¬((p:Int)=0):=by omega
 have hpb:((p:Int)==0)=false:=by simpa using a
 have H:=hid h;clear h hon b;go_enter func64,ntmps64;go_wp2_with fail;go_end0;exact⟨rfl,sv,zv,H.out,TF.refl _ _ _ _⟩
theorem zsc (w:World) (s s2:Gr.TS) (sv zv:Value) (bA v x:Nat) (h:TAt y B D A c root vs ns w s sv zv) (hA:ABox y D w sv zv bA v) (_hl:ns.length<=1073741823) (hv:v<ns.length) (hx:x<ns.length) (li:s.idx.length=ns.length) (ll:s2.low.length=ns.length)
 (hi:s.ix x=0) (_hb1:s2.lw v<=1073741824) (_hb2:s2.lw x<=1073741824) (hcall:Calls prog 63 (y.args (.int .i64 x)) w (TPost y B D A c root vs ns w sv zv s2)):
 Calls prog 64 #[.int .i64 x,.pointer (some ⟨y.bI,0,none⟩),.pointer (some ⟨y.bV,0,none⟩),.pointer (some ⟨y.bL,0,none⟩),.pointer (some ⟨bA,0,none⟩),.pointer (some ⟨y.bO,0,none⟩)] w (TPost y B D A c root vs ns w sv zv (s2.lower v (s2.lw x))):=by
 have o:w.cell? ⟨y.bI,0,none⟩=some (.slice (some ⟨y.rI,0,none⟩) ns.length ns.length):=h.xI.cell 0;have n:w.cell? ⟨y.bV,0,none⟩=some y.fn:=h.xV.cell 0;have ix:w.cell? ⟨y.rI,x,none⟩=some (.int .i64 0):=by rw[h.rI.cell,zab (by omega)];show some (Value.int .i64 ((s.ix x:Nat):Int))=_;rw[hi];rfl
 have hvI:(v:Int)<(ns.length:Int):=by omega
 have hxI:(x:Int)<(ns.length:Int):=by omega
 have m:=hid hcall;have z:=hid hA;obtain⟨p,j⟩:=ex (s2.lw x)
 obtain⟨q,g⟩:=ex (s2.lw v)
 have t:=hid j;have r:=hid g;have u:Hid (s2.lower v p={s2 with low:=s2.low.set v (min q p)}):=hid (by unfold Gr.TS.lower;rw[g]);have l:=hid h.ok;rw[j]at _hb2 ⊢;rw[g]at _hb1;unfold TL.fn at n;unfold TL.args at m;clear h hA hcall j g;go_enter func64,ntmps64;go_wp2_with fail;refine m.out.mono ?_;rintro e w2 ⟨rfl,sv2,zv2,d,a⟩;have f:=z.out.kept l.out a;have l0:w2.cell? ⟨y.bL,0,none⟩=some (.slice (some ⟨y.rL,0,none⟩) ns.length ns.length):=d.xL.cell 0;have a0:w2.cell? ⟨bA,0,none⟩=some (.int .i64 (v:Int)):=f.b.cell 0;have lx:w2.cell? ⟨y.rL,x,none⟩=some (.int .i64 (p:Int)):=by rw[d.rL.cell,zab (by omega),<-t.out];rfl
 have lv:w2.cell? ⟨y.rL,v,none⟩=some (.int .i64 (q:Int)):=by rw[d.rL.cell,zab (by omega),<-r.out];rfl
 have lf:∀i,w2.frozen? ⟨y.rL,i,none⟩=false:=d.rL.frozen;have H:=hid d;have k:=hid a;clear o n ix d a f;go_upto_region 2 with fail;go_region
 all_goals go_wp2_with fail
 all_goals
  go_end0;refine⟨rfl,sv2,zv2,?_,(k.out.set y.rL v (by simp) _).drew⟩;rw[u.out]
  first
   | (rw[show min q p=q from by omega];exact(H.out.setL v q).drew)
   | (rw[show min (q:Int) (p:Int)=((min q p:Nat):Int)from by omega];exact(H.out.setL v (min q p)).drew)
   | (rw[show min q p=p from by omega];exact(H.out.setL v p).drew)
end
open Gr
theorem zpi (x:Gr.Dn) (A:Option Addr) (c:Nat) (hl:x.d.length<=1073741823) (w:World):
 Calls prog 77 #[.agg #[.bool x.neg,.slice A x.d.length c,.int .i64 x.e]] w fun e w'=>e=.returned (.int .i64 (lim x:Nat))/\Below w.heap.size w w':=by
 obtain⟨neg,d,e⟩:=x;simp only at hl ⊢;have g:Below w.heap.size w (w.alloc (.cells #[.bool neg,.slice A d.length c,.int .i64 e] 86)):=(Below.refl _ _).alloc (Nat.le_refl _) _;have b:=hid g;clear g;by_cases h1:400<d.length
 .have a:Hid (lim ⟨neg,d,e⟩=6):=hid (by unfold lim;rw[if_pos h1]);have f:(400:Int)<(d.length:Int):=by omega
  go_enter func77,ntmps77;go_wp2;go_ret;rw[a.out];exact⟨rfl,b.out⟩
 .have f:¬(400:Int)<(d.length:Int):=by omega
  by_cases h2:e< -2000
  .have a:Hid (lim ⟨neg,d,e⟩=2):=hid (by unfold lim;rw[if_neg h1,if_pos (.inl h2)]);go_enter func77,ntmps77;go_wp2;go_ret;rw[a.out];exact⟨rfl,b.out⟩
  .by_cases h3:2000<e
   .have a:Hid (lim ⟨neg,d,e⟩=2):=hid (by unfold lim;rw[if_neg h1,if_pos (.inr h3)]);go_enter func77,ntmps77;go_wp2;go_ret;rw[a.out];exact⟨rfl,b.out⟩
   .have a:Hid (lim ⟨neg,d,e⟩=0):=hid (by unfold lim;rw[if_neg h1,if_neg (fun h=>h.elim h2 h3)]);go_enter func77,ntmps77;go_wp2;go_ret;rw[a.out];exact⟨rfl,b.out⟩
def signS (neg:Bool):Gr.Str:=if neg=true then[45]else[]
theorem zsu (neg:Bool) (A:Option Addr) (n c:Nat) (e:Int) (w:World):
 Calls prog 140 #[.agg #[.bool neg,.slice A n c,.int .i64 e]] w fun e' w'=>e'=.returned (.string ⟨(signS neg).toArray⟩)/\Below w.heap.size w w':=by
 have a:Below w.heap.size w (w.alloc (.cells #[.bool neg,.slice A n c,.int .i64 e] 86)):=(Below.refl _ _).alloc (Nat.le_refl _) _;have b:=hid a;clear a;cases neg
 all_goals
  go_enter func140,ntmps140;go_wp2;go_ret;exact⟨rfl,b.out⟩
theorem zdz (w:World) (s:List UInt8) (A:Option Addr) (c:Nat) {B:Nat} (h:RowAt byteL w B A s):(convert 80 9 (.slice A s.length c)).run prog w=.ok (.string ⟨s.toArray⟩) w:=by
 cases s with
 |nil=>
  cases A with
  |none=>exact run_convert_bytes_nil (P:=prog) w 80 5 underlying80 underlying5 0 c 9 underlying9
  |some a=>exact run_convert_bytes_back (P:=prog) w 80 9 5 a c [] underlying80 underlying5 underlying9 (fun j d=>by simp at d)
 |cons b r=>
  obtain⟨f,rfl,_,_⟩:=h.get (k:=0) (by simp);refine run_convert_bytes_back (P:=prog) w 80 9 5 f c (b::r) underlying80 underlying5 underlying9 (fun j d=>?_);obtain⟨ad',e,_,g,_⟩:=h.get d;cases e;have:=g _ rfl;simpa[byteL]using this
theorem zmk (neg:Bool) (A:Option Addr) (d:List Nat) (c:Nat) (E:Int) (hl:d.length<=1073741823) (hd:∀v∈d,v<10) (w:World) (h:RowAt byteL w w.heap.size A (d8 d)):
 Calls prog 141 #[.agg #[.bool neg,.slice A d.length c,.int .i64 E]] w fun e' w'=>e'=.returned (.string ⟨(d.map Gr.ch).toArray⟩)/\Below w.heap.size w w':=by
 have K:=fun W=>zcu d.length (by omega) W
 have Q:=hid hd;have m:=hid h;clear hd h;go_enter func141,ntmps141;go_upto_region 2 with fail;obtain⟨D,e⟩:=ex (w.alloc (.cells #[.bool neg,.slice A d.length c,.int .i64 E] 86))
 have s:Blk D w.heap.size 86 #[.bool neg,.slice A d.length c,.int .i64 E]:=by rw[<-e];exact Blk.new _ _ _
 have r:Below w.heap.size w D:=by rw[<-e];exact(Below.refl _ _).alloc (Nat.le_refl _) _
 have b:D.heap.size=w.heap.size+1:=by rw[<-e];simp
 obtain⟨a,l⟩:=ex w.heap.size
 (try rw[e]);(try rw[l]);rw[l]at s r b m;obtain⟨u,g⟩:=ex (D.alloc (.cells (ucells (List.replicate d.length 0)) 5))
 have B:Blk u (a+1) 5 (ucells (List.replicate d.length 0)):=by rw[<-g,<-b];exact Blk.new _ _ _
 have n:Below (a+1) D u:=by rw[<-g,<-b];exact(Below.refl _ _).alloc (Nat.le_refl _) _
 have o:Hid (Blk u a 86 #[.bool neg,.slice A d.length c,.int .i64 E]/\Blk u (a+1) 5 (ucells (List.replicate d.length 0))/\Below a w u):=hid ⟨s.below n (by omega),B,r.trans (n.mono (by omega))⟩;have H:=hid l;(try rw[b]);(try rw[g]);clear e l s r b g B n K;have O:u.cell? ⟨a,1,none⟩=some (.slice A d.length c):=o.out.1.cell 1;go_wp2_with fail;clear O;go_loopw [13] (fun s13 wr=>∃k:Nat,k<=d.length/\s13=.int .i64 k/\Hid (Blk wr (a+1) 5 (ucells ((d.take k).map Gr.ch++List.replicate (d.length-k) 0))/\Below a w wr)) (fun s13 _=>d.length-(intOf s13).toNat)
 case atStart=>exact⟨0,by omega,rfl,hid ⟨by simpa using o.out.2.1,o.out.2.2⟩⟩
 case round=>
  obtain⟨k,hk,rfl,t⟩:=hrel;by_cases hlt:k<d.length
  .have x:(k:Int)<(d.length:Int):=by omega
   obtain⟨v,G⟩:=ex (d[k])
   have C:v<10:=by rw[<-G];exact Q.out _ (List.getElem_mem hlt)
   obtain⟨ad,F,_,y0⟩:=zvu (m.out.below t.out.2) hlt G C;subst F;have pfd:∀j,wr.frozen? ⟨a+1,j,none⟩=false:=t.out.1.frozen;have f:((d.take k).map Gr.ch).length=k:=by simp;omega
   obtain⟨M,zd⟩:∃M,wr.cell? ⟨a+1,k,none⟩=some M:=by
    rw[t.out.1.cell];refine⟨_,Array.getElem?_eq_getElem (i:=k) ?_⟩;simp[ucells];omega
   have y:Hid ((d.take (k+1)).map Gr.ch=(d.take k).map Gr.ch++[Gr.ch v]/\((d.take k).map Gr.ch).length=k):=hid ⟨by
    rw[List.take_succ_eq_append_getElem hlt,List.map_append,G];rfl,f⟩
   have hvI:(v:Int)<10:=by omega
   clear G f;go_wp2_with fail;obtain⟨p,q⟩:∃p:UInt8,p=Gr.ch v:=⟨_,rfl⟩
   have z:48+(v:Int)=(p.toNat:Int):=by rw[q];unfold Gr.ch;rw[UInt8.toNat_ofNat'];omega
   rw[z];have P:Hid (Blk (wr.setCell ⟨a+1,k,none⟩ (.int .u8 (p.toNat:Int))) (a+1) 5 (ucells ((d.take (k+1)).map Gr.ch++List.replicate (d.length-(k+1)) 0))/\Below a w (wr.setCell ⟨a+1,k,none⟩ (.int .u8 (p.toNat:Int)))):=hid ⟨by
    have J:=t.out.1.set_ k (.int .u8 (p.toNat:Int));rw[zdx]at J;have L:=zky ((d.take k).map Gr.ch) (d.length-k) p (by omega);rw[y.out.2]at L;rw[L]at J;rw[y.out.1,<-q,show d.length-(k+1)=d.length-k-1 from by omega];exact J,t.out.2.setCell (by simp) _⟩
   clear z q;go_roundw
   case rel=>exact⟨k+1,by omega,by go_num,P⟩
   case measure=>simp[intOf];omega
  .have x:¬(k:Int)<(d.length:Int):=by omega
   have N:RowAt byteL wr (a+2) (some ⟨a+1,0,none⟩) (d.map Gr.ch):=by
    have:=t.out.1;rw[show k=d.length from by omega,List.take_length,Nat.sub_self,List.replicate_zero,List.append_nil]at this;exact RowAt.ofBlk this (zat _) (by omega)
   have I:=zdz wr _ (some ⟨a+1,0,none⟩) d.length N;rw[List.length_map]at I;clear N;go_wp2;go_ret;exact⟨rfl,by rw[H.out];exact t.out.2⟩
theorem zdn (neg:Bool):(signS neg).length<=1:=by cases neg<;>decide
theorem zsv (x:Gr.Dn) (A:Option Addr) (c:Nat) (hl:x.d.length<=1073741823) (hd:∀v∈x.d,v<10) (w:World) (h:RowAt byteL w w.heap.size A (d8 x.d)):
 Calls prog 106 #[.agg #[.bool x.neg,.slice A x.d.length c,.int .i64 x.e]] w fun e' w'=>e'=.returned (.string ⟨(coef x).toArray⟩)/\Below w.heap.size w w':=by
 obtain⟨neg,d,E⟩:=x;simp only at hl hd h ⊢;have i:=hid h;have B:=hid hd;clear h hd;obtain⟨r,s⟩:=ex (coef ⟨neg,d,E⟩)
 have t:=hid s;rw[s];clear s;go_enter func106,ntmps106;go_upto_region 1 with fail;obtain⟨a,j⟩:=ex (w.alloc (.cells #[.bool neg,.slice A d.length c,.int .i64 E] 86))
 obtain⟨g,f⟩:=ex w.heap.size
 have b:Hid (Blk a g 86 #[.bool neg,.slice A d.length c,.int .i64 E]/\Below g w a/\a.heap.size=g+1):=hid (by rw[<-j,<-f];exact⟨Blk.new _ _ _,(Below.refl _ _).alloc (Nat.le_refl _) _,by simp⟩);have k:=hid f;rw[f]at i;(try rw[j]);(try rw[f]);clear j f;have y:a.cell? ⟨g,1,none⟩=some (.slice A d.length c):=b.out.1.cell 1;by_cases h0:d=[]
 .subst h0;have l:Hid (r=[48]):=hid (by rw[<-t.out];rfl);go_wp2;go_ret;rw[l.out,k.out];exact⟨rfl,b.out.2.1⟩
 .have hlp:=List.length_pos_iff.2 h0;have h1:¬((d.length:Int)=0):=by omega
  have h1b:((d.length:Int)==0)=false:=by simpa using h0
  have l:Hid (r=signS neg++d.map Gr.ch):=hid (by rw[<-t.out];unfold coef;rw[if_neg h0];rfl);go_upto_region 3 with fail;clear y;have o:a.heap.size=g+1:=b.out.2.2;have u:Hid (∀W:WB a.heap.size a,Calls prog 140 #[.agg #[.bool neg,.slice A d.length c,.int .i64 E]] W.w (fun e m=>e=.returned (.string ⟨(signS neg).toArray⟩)/\Below a.heap.size a m)/\Calls prog 141 #[.agg #[.bool neg,.slice A d.length c,.int .i64 E]] W.w (fun e m=>e=.returned (.string ⟨(d.map Gr.ch).toArray⟩)/\Below a.heap.size a m)):=hid (fun W=>⟨(zsu neg A d.length c E W.w).mono (fun _ _ ⟨n,q⟩=>⟨n,W.h.trans (q.mono W.h.size)⟩),(zmk neg A d c E hl B.out W.w (((i.out.below b.out.2.1).below (W.h.mono (by omega))).more (by have:=W.h.size;omega))).mono (fun _ _ ⟨n,q⟩=>⟨n,W.h.trans (q.mono W.h.size)⟩)⟩);have p0:∀W:WB a.heap.size a,W.w.cell? ⟨g,0,none⟩=some (.bool neg):=fun W=>(W.h.cell (p:=⟨g,0,none⟩) (by simp;omega)).trans (b.out.1.cell 0)
  have p1:∀W:WB a.heap.size a,W.w.cell? ⟨g,1,none⟩=some (.slice A d.length c):=fun W=>(W.h.cell (p:=⟨g,1,none⟩) (by simp;omega)).trans (b.out.1.cell 1)
  have p2:∀W:WB a.heap.size a,W.w.cell? ⟨g,2,none⟩=some (.int .i64 E):=fun W=>(W.h.cell (p:=⟨g,2,none⟩) (by simp;omega)).trans (b.out.1.cell 2)
  clear o;have hadd:=fun W=>zad (signS neg) (d.map Gr.ch) (by have:=zdn neg;rw[List.length_map];omega) W
  refine zac a.heap.size a (by kernel_rfl) (by kernel_rfl) (Below.refl _ _) ?_
  repeat (go_big_quiet_step ((first| (with_reducible refine Calls.grow (u.out _).1)| (with_reducible refine Calls.grow (u.out _).2))))
  refine wpQuiet_nil ?_;rintro _ ⟨z,rfl⟩;go_wp2;go_ret;rw[l.out,k.out];exact⟨rfl,b.out.2.1.trans (z.h.mono (by have:=b.out.2.2;omega))⟩
theorem zg1 (n:Int) (h0:-9223372036854775808<=n) (h1:n<=9223372036854775807) (w:World) (hT:UT w):
 Calls prog 107 #[.int .i64 n] w fun e w'=>e=.returned (.string ⟨(Lib.itoa n).toArray⟩)/\Below w.heap.size w w':=
 (strconv_Itoa n h0 h1 w hT.pow).mono (fun _ _ ⟨e,k,os,h⟩=>⟨e,by rw[h];exact Lib.below_grow _ _ (Nat.le_refl _) _ _⟩)
theorem zg2 (n:Int) (h0:-9223372036854775808<=n) (h1:n<=9223372036854775807):(Lib.itoa n).length<=21:=by
 have:=zc6 n 19 (by omega);omega
theorem zpj (x:Gr.Dn) (A:Option Addr) (c:Nat) (hl:x.d.length<=1073741823) (hd:∀v∈x.d,v<10) (h0:-9223372036854775808<=x.e) (h1:x.e<=9223372036854775807) (w:World) (hT:UT w) (h:RowAt byteL w w.heap.size A (d8 x.d)):
 Calls prog 78 #[.agg #[.bool x.neg,.slice A x.d.length c,.int .i64 x.e]] w fun e' w'=>e'=.returned (.string ⟨(Gr.text x).toArray⟩)/\Below w.heap.size w w':=by
 have l:=hid (fun(W:World) (hW:RowAt byteL W W.heap.size A (d8 x.d))=>zsv x A c hl hd W hW);have q:(coef x).length<=1073741825:=by
  unfold coef;split
  .simp
  .have:=zdn x.neg;unfold signS at this;rw[List.length_append,List.length_map];omega
 have n:=zg2 x.e h0 h1;obtain⟨r,F⟩:=ex (coef x)
 obtain⟨J,k⟩:=ex (Gr.text x)
 have B:Hid (J=r++101::Lib.itoa x.e):=hid (by rw[<-k,<-F];rfl);rw[F]at l q;rw[k];clear F k;obtain⟨neg,d,E⟩:=x;simp only at hl h0 h1 h l n B ⊢;obtain⟨t,H⟩:=ex (Lib.itoa E)
 have m:=hid (fun(W:World) (hW:UT W)=>zg1 E h0 h1 W hW);rw[H]at n B m;clear H;have j:=hid h;have u:=hid hT;clear h hd hT;go_enter func78,ntmps78;go_upto_region 1 with fail;obtain⟨a,i⟩:=ex (w.alloc (.cells #[.bool neg,.slice A d.length c,.int .i64 E] 86))
 obtain⟨g,f⟩:=ex w.heap.size
 have b:Hid (Blk a g 86 #[.bool neg,.slice A d.length c,.int .i64 E]/\Below g w a/\a.heap.size=g+1):=hid (by rw[<-i,<-f];exact⟨Blk.new _ _ _,(Below.refl _ _).alloc (Nat.le_refl _) _,by simp⟩);have s:Hid (UT a):=hid (UT.stays _ _ u.out (by rw[<-i];exact(Below.refl _ _).alloc (Nat.le_refl _) _));have o:=hid f;rw[f]at j;(try rw[i]);(try rw[f]);clear i f;have D:a.heap.size=g+1:=b.out.2.2;have G:Hid (∀W:WB a.heap.size a,Calls prog 106 #[.agg #[.bool neg,.slice A d.length c,.int .i64 E]] W.w (fun e y=>e=.returned (.string ⟨r.toArray⟩)/\Below a.heap.size a y)/\Calls prog 107 #[.int .i64 E] W.w (fun e y=>e=.returned (.string ⟨t.toArray⟩)/\Below a.heap.size a y)):=hid (fun W=>⟨(l.out W.w (((j.out.below b.out.2.1).below (W.h.mono (by omega))).more (by have:=W.h.size;omega))).mono (fun _ _ ⟨C,z⟩=>⟨C,W.h.trans (z.mono W.h.size)⟩),(m.out W.w (UT.stays _ _ s.out W.h)).mono (fun _ _ ⟨C,z⟩=>⟨C,W.h.trans (z.mono W.h.size)⟩)⟩);have p0:∀W:WB a.heap.size a,W.w.cell? ⟨g,0,none⟩=some (.bool neg):=fun W=>(W.h.cell (p:=⟨g,0,none⟩) (by simp;omega)).trans (b.out.1.cell 0)
 have p1:∀W:WB a.heap.size a,W.w.cell? ⟨g,1,none⟩=some (.slice A d.length c):=fun W=>(W.h.cell (p:=⟨g,1,none⟩) (by simp;omega)).trans (b.out.1.cell 1)
 have p2:∀W:WB a.heap.size a,W.w.cell? ⟨g,2,none⟩=some (.int .i64 E):=fun W=>(W.h.cell (p:=⟨g,2,none⟩) (by simp;omega)).trans (b.out.1.cell 2)
 have hadd:=fun W=>zad r [101] (by simp;omega) W
 have hadd2:=fun W=>zad (r++[101]) t (by simp;omega) W
 clear D;refine zac a.heap.size a (by kernel_rfl) (by kernel_rfl) (Below.refl _ _) ?_
 repeat (go_big_quiet_step ((first| (with_reducible refine Calls.grow (G.out _).1)| (with_reducible refine Calls.grow (G.out _).2))))
 refine wpQuiet_nil ?_;rintro _ ⟨I,rfl⟩;go_wp2;go_ret;rw[B.out,o.out];exact⟨rfl,b.out.2.1.trans (I.h.mono (by have:=b.out.2.2;omega))⟩
theorem fld0 (s:Gr.Str) (a first c:Nat):fldAt s a first c 0=numAt s a first:=rfl
theorem fld1 (s:Gr.Str) (a first c:Nat):fldAt s a first c 1=if isAt s (a+first) (UInt8.ofNat c)=true then numAt s (a+first+1) 2 else none:=by
 unfold fldAt posAt;simp
theorem fld2 (s:Gr.Str) (a first c:Nat):fldAt s a first c 2=if isAt s (a+first+3) (UInt8.ofNat c)=true then numAt s (a+first+4) 2 else none:=by
 unfold fldAt posAt;simp[Nat.add_assoc]
theorem zfb {c:Prop} [Decidable c] {o:Option Nat} {v:Nat} (h:(if c then o else none)=some v):c/\o=some v:=by
 grind
theorem zfc {c:Prop} [Decidable c] {o:Option Nat} (h:(if c then o else none)=none):¬c\/o=none:=by
 grind
theorem zs8 {s:Gr.Str} {g:Nat->Nat} (h:∀j,j<3->fldAt s 0 4 45 j=some (g (0+j))):dateAt s=some (g 0,g 1,g 2):=by
 have b:=h 0 (by omega);have a:=h 1 (by omega);have c:=h 2 (by omega);rw[fld0]at b;rw[fld1]at a;rw[fld2]at c;obtain⟨f,d⟩:=zfb a;obtain⟨e,i⟩:=zfb c;unfold dateAt;rw[b,show(5:Nat)=0+4+1 from rfl,show(8:Nat)=0+4+4 from rfl,d,i];show(if(isAt s (0+4) (UInt8.ofNat 45) && isAt s (0+4+3) (UInt8.ofNat 45))=true then _ else _)=_;rw[f,e];rfl
theorem zmq {s:Gr.Str} (h:∃j,j<3/\fldAt s 0 4 45 j=none):dateAt s=none:=by
 obtain⟨j,hj,h⟩:=h;unfold dateAt;have:j=0\/j=1\/j=2:=by omega
 rcases this with rfl|rfl|rfl
 .rw[fld0]at h;rw[h]
 .rw[fld1]at h;rcases zfc h with h|h
  .grind
  .grind
 .rw[fld2]at h;rcases zfc h with h|h
  .grind
  .grind
structure ClkIs (s:Gr.Str) (a h m c:Nat):Prop where
 h:numAt s a 2=some h
 m:numAt s (a+3) 2=some m
 c:numAt s (a+6) 2=some c
 i:isAt s (a+2) 58=true
 j:isAt s (a+5) 58=true
theorem zv4 {s:Gr.Str} {a:Nat} {g:Nat->Nat} (h:∀j,j<3->fldAt s a 2 58 j=some (g (3+j))):ClkIs s a (g 3) (g 4) (g 5):=by
 have c:=h 0 (by omega);have b:=h 1 (by omega);have d:=h 2 (by omega);rw[fld0]at c;rw[fld1]at b;rw[fld2]at d;obtain⟨i,e⟩:=zfb b;obtain⟨f,k⟩:=zfb d;exact⟨c,e,k,i,f⟩
theorem zx9 {s:Gr.Str} {a:Nat} (h:∃j,j<3/\fldAt s a 2 58 j=none):clockAt s a=none:=by
 obtain⟨j,hj,h⟩:=h;unfold clockAt;have:j=0\/j=1\/j=2:=by omega
 rcases this with rfl|rfl|rfl
 .rw[fld0]at h;rw[h]
 .rw[fld1]at h;rcases zfc h with h|h
  .grind
  .grind
 .rw[fld2]at h;rcases zfc h with h|h
  .grind
  .grind
theorem zp3 {s:Gr.Str} {a h m c:Nat} (k:ClkIs s a h m c) (hd:isAt s (a+8) 46=false):clockAt s a=some ⟨h,m,c,0,a+8⟩:=by
 unfold clockAt;rw[k.h,k.m,k.c];simp only;rw[k.i,k.j,hd];rfl
theorem zv5 {s:Gr.Str} {a h m c:Nat} (k:ClkIs s a h m c) (hd:isAt s (a+8) 46=true):clockAt s a=if((s.drop (a+9)).takeWhile Gr.dig).length=0\/9<((s.drop (a+9)).takeWhile Gr.dig).length then none
 else some ⟨h,m,c,Gr.val ((s.drop (a+9)).takeWhile Gr.dig)*10 ^ (9-((s.drop (a+9)).takeWhile Gr.dig).length),a+9+((s.drop (a+9)).takeWhile Gr.dig).length⟩:=by
 unfold clockAt;rw[k.h,k.m,k.c];simp only;rw[k.i,k.j,hd];rfl
theorem zbt {s:Gr.Str} {p b:Nat} (hp:p<s.length) (hb:(s[p]'hp).toNat=b) (c:UInt8):isAt s p c=decide (b=c.toNat):=by
 unfold isAt;rw[List.getElem?_eq_getElem hp,<-hb,Bool.eq_iff_iff];simp;exact⟨fun e=>by rw[e],fun e=>UInt8.toNat_inj.1 e⟩
theorem zya {s:Gr.Str} {p:Nat} (hp:p<s.length) (hb:(s[p]'hp).toNat=90):zoneAt s p=some ⟨90,0,0,p+1⟩:=by
 unfold zoneAt;rw[if_pos (by rw[zbt hp hb];rfl)]
theorem zk7 {s:Gr.Str} {p b:Nat} (hp:p<s.length) (hb:(s[p]'hp).toNat=b) (h1:b≠90) (h2:b≠43) (h3:b≠45):zoneAt s p=none:=by
 unfold zoneAt;rw[if_neg (by rw[zbt hp hb];simpa using h1)];split
 .rw[if_neg];rw[zbt hp hb,zbt hp hb];simp[h2,h3]
 .rfl
theorem zs9 {s:Gr.Str} {p b:Nat} {g:Nat->Nat} (hp:p<s.length) (hb:(s[p]'hp).toNat=b) (h2:b=43\/b=45) (h:∀j,j<2->fldAt s (p+1) 2 58 j=some (g (6+j))):∃z:Gr.Zn,zoneAt s p=some z/\z.z.toNat=b/\z.h=g 6/\z.m=g 7/\z.stop=p+6:=by
 have c:=h 0 (by omega);have a:=h 1 (by omega);rw[fld0]at c;rw[fld1]at a;obtain⟨e,d⟩:=zfb a;refine⟨⟨s.getD p 0,g 6,g 7,p+6⟩,?_,?_,rfl,rfl,rfl⟩
 .unfold zoneAt;rw[if_neg (by rw[zbt hp hb];rcases h2 with rfl|rfl<;>decide),c,show p+4=p+1+2+1 from rfl,d];simp only;rw[if_pos];rw[zbt hp hb,zbt hp hb,Bool.and_eq_true];exact⟨by rcases h2 with rfl|rfl<;>decide,e⟩
 .grind
theorem zmr {s:Gr.Str} {p b:Nat} (hp:p<s.length) (hb:(s[p]'hp).toNat=b) (h2:b≠90) (h:∃j,j<2/\fldAt s (p+1) 2 58 j=none):zoneAt s p=none:=by
 obtain⟨j,hj,h⟩:=h;unfold zoneAt;rw[if_neg (by rw[zbt hp hb];simpa using h2)];have:j=0\/j=1:=by omega
 rcases this with rfl|rfl
 .rw[fld0]at h;rw[h]
 .rw[fld1]at h;rcases zfc h with h|h
  .grind
  .grind
theorem zce (x n:Nat) (i j:Int) (hi:i=(x:Int)) (hj:j=(n:Int)) (hx:x<=999999999) (hn:n<=9) (w:World):
 Calls prog 167 #[.int .i64 i,.int .i64 j] w fun e w'=>e=.returned (.string ⟨(Gr.pd n x).toArray⟩)/\Below w.heap.size w w':=by
 subst hi;subst hj;go_enter func167,ntmps167;go_wp2_with fail;go_loopw [0,5,6] (fun s0 s5 s6 wr=>∃k y:Nat,k<=n/\y<=999999999/\s0=.int .i64 (y:Int)/\s5=.string ⟨(Gr.pd k x).toArray⟩/\s6=.int .i64 (k:Int)/\Hid (y=x /10 ^ k/\Below w.heap.size w wr)) (fun _ _ s6 _=>n-(intOf s6).toNat)
 case atStart=>exact⟨0,x,by omega,hx,rfl,rfl,rfl,Lib.hid ⟨by simp,Below.refl _ _⟩⟩
 case round=>
  obtain⟨k,y,hk,hy,rfl,rfl,rfl,l⟩:=hrel;have a:=Gr.za6 k x;by_cases hlt:k<n
  .have d:(k:Int)<(n:Int):=by omega
   obtain⟨c,m⟩:∃c:UInt8,c=Gr.ch (y%10):=⟨_,rfl⟩
   have g:(48:Int)+(y:Int)%10=(c.toNat:Int):=by rw[m];unfold Gr.ch;rw[UInt8.toNat_ofNat'];omega
   have b:Hid (Gr.pd (k+1) x=[c]++Gr.pd k x/\y /10=x /10 ^ (k+1)):=Lib.hid ⟨by rw[Gr.zsw,<-l.out.1,<-m];rfl,by rw[l.out.1,Nat.div_div_eq_div_mul,Nat.pow_succ]⟩;have h:=fun W=>zad [c] (Gr.pd k x) (by rw[a];simp;omega) W
   have f:(convert 80 9 (.slice (some ⟨wr.heap.size,0,none⟩) 1 1)).run prog (wr.alloc (.cells #[.int .u8 (c.toNat:Int)] 5))=.ok (.string ⟨[c].toArray⟩) (wr.alloc (.cells #[.int .u8 (c.toNat:Int)] 5)):=zdz (B:=wr.heap.size+1) (wr.alloc (.cells #[.int .u8 (c.toNat:Int)] 5)) [c] (some ⟨wr.heap.size,0,none⟩) 1 (RowAt.lit1 c _ rfl _ rfl);rw[<-g]at f;obtain⟨p,o⟩:=ex (Gr.pd k x)
   rw[o]at h b ⊢;have hy10:(0:Int)<=(y:Int)%10:=by omega
   have hy11:(y:Int)%10<=9:=by omega
   clear g a o m;go_wp2;go_roundw
   case rel=>exact⟨k+1,y /10,by omega,by omega,by exact congrArg (Value.int .i64) (by omega),by rw[b.out.1];rfl,by go_num,Lib.hid ⟨b.out.2,l.out.2.alloc l.out.2.size _⟩⟩
   case measure=>simp[intOf];omega
  .obtain rfl:k=n:=by omega
   have d:¬(k:Int)<(k:Int):=by omega
   clear a;go_wp2;go_ret;exact⟨rfl,l.out.2⟩
end Go.Proofs.YtpgmfihonmoliaaGreatDoor

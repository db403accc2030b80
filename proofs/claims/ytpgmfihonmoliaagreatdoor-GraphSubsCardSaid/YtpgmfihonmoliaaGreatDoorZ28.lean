import Derived.Lib.LaidU8T
import Derived.PinnedBridge
import Derived.Lay
import Derived.Deep.DeepWitnessRowRef
import Derived.Test.YtpgmfihonmoliaaGreatDoorZ27
import Derived.Test.YtpgmfihonmoliaaGreatDoorZ16
namespace Go.Proofs.YtpgmfihonmoliaaGreatDoor
open _root_.Go.Proofs.Tryz
section
open Go.Shelf Go.Lib Go.ChangeShapes Go.WideShapes Go.ChangeAt Go.RowKit
def laid7:List (String×DataW Unit):=Rows.graphSubsRow.laid
theorem own:ownKnob prog.godebug=none:=by kernel_rfl
theorem zub:Rows.laid_unicode_utf8_first=Lib.firstData:=by kernel_rfl
theorem zrz:(Rows.laid_unicode_utf8_acceptRanges:DataW Unit)=Lib.acceptData:=by kernel_rfl
noncomputable def laidWorld (os:Os):World:=World.laidAll prog os laid7
theorem zuc (os:Os) (args:Array Value):laidMet prog laid7 ((laidWorld os).forCall (fun _ _=>0) ⟨#[],args,[]⟩).memory:=laidMet_laidAll _ (by kernel_rfl) (by kernel_rfl)
theorem zr0:("unicode/utf8.first",Lib.firstData)∈laid7:=by
 rw[<-zub];exact .tail _ (.tail _ (.tail _ (.tail _ (.tail _ (.tail _ (.head _))))))
theorem znv:("unicode/utf8.acceptRanges",Lib.acceptData)∈laid7:=by
 rw[<-zrz];exact .tail _ (.tail _ (.tail _ (.head _)))
theorem zi9 {W:World} (h:laidMet prog laid7 W):Lib.Utf8Tabs 1 2 W:=
 utf8Tabs_of_readsT (ρ:=lays197_ren) {lays197 with} ⟨by kernel_rfl,by kernel_rfl,by kernel_rfl,by kernel_rfl,by kernel_rfl,by kernel_rfl,by kernel_rfl⟩ (Lib.laidMet.reads h zr0) (Lib.laidMet.reads h znv)
theorem zu3 {W:World} {n:String} {k:IntKind} {zs:List Int} {t e:TypeId} {m g:Nat} (hg:prog.globalNamed n=some g) (hty:(prog.globals[g]?).map (·.type)=some t) (ht:prog.underlying t=some (.array m e)) (he:prog.underlying e=some (.int k)) (hce:prog.cellsOf e=1) (hct:prog.cellsOf t=m)
 (h:Lib.VarReads prog W n (Lib.tabData k zs)):Lib.TabIs prog W n k zs:=by
 obtain⟨g',t',cs,fuel,p,c,b,a,d⟩:=h;obtain rfl:=Option.some.inj (hg.symm.trans c);obtain rfl:=Option.some.inj (hty.symm.trans b);unfold Lib.TabIs;rw[a,<-Lib.cells_of_tab ht he hce hct d]
theorem zlq {W:World} {n:String} {t g:Nat} {ms:Array (String×TypeId)} {nm:String} {d:DataW Unit} (hg:prog.globalNamed n=some g) (hty:(prog.globals[g]?).map (·.type)=some t) (ht:prog.underlying t=some (.interface ms))
 (h:Lib.VarReads prog W n (.iface nm d)):∃te p,W.cell? ⟨g,0,none⟩=some (.iface te p):=by
 obtain⟨g',t',cs,a,p,f,e,b,c⟩:=h;obtain rfl:=Option.some.inj (hg.symm.trans f);obtain rfl:=Option.some.inj (hty.symm.trans e);cases a with
 |zero=>simp[DataW.trod]at c
 |succ a=>
  have h0:=World.var?_cell hg b 0;unfold DataW.trod at c;rw[ht]at c;split at c<;>simp_all;rename_i hcs;rw[<-Array.getElem?_toList,hcs];exact⟨_,_,rfl⟩
theorem zyr:(Rows.laid_internal_strconv_uint64pow10:DataW Unit)=Lib.tabData .u64 Lib.pow10Tab:=by kernel_rfl
theorem zys:(Rows.laid_math_bits_deBruijn64tab:DataW Unit)=Lib.tabData .u8 (Lib.deBruijn64tab.map Int.ofNat):=by kernel_rfl
theorem znw {W:World} (hl:laidMet prog laid7 W):UT W:=by
 have h:=zi9 hl;have b:("math/bits.deBruijn64tab",(Rows.laid_math_bits_deBruijn64tab:DataW Unit))∈laid7:=.tail _ (.head _);have a:("internal/strconv.uint64pow10",(Rows.laid_internal_strconv_uint64pow10:DataW Unit))∈laid7:=.tail _ (.tail _ (.head _));have f:("strconv.ErrRange",(Rows.laid_strconv_ErrRange:DataW Unit))∈laid7:=.tail _ (.tail _ (.tail _ (.tail _ (.head _))));have k:("strconv.ErrSyntax",(Rows.laid_strconv_ErrSyntax:DataW Unit))∈laid7:=.tail _ (.tail _ (.tail _ (.tail _ (.tail _ (.head _)))));rw[zys]at b;rw[zyr]at a;refine⟨h,?_,?_,?_,?_,?_⟩
 .have c:=(h.2 0 (by decide)).1;rcases Nat.lt_or_ge 2 W.heap.size with h1|h1
  .exact h1
  .rw[World.cell?]at c;simp[Array.getElem?_eq_none h1]at c
 .exact zu3 (t:=232) (e:=105) (m:=20) (g:=7) (by kernel_rfl) (by kernel_rfl) underlying232 underlying105 (by kernel_rfl) (by kernel_rfl) (Lib.laidMet.reads hl a)
 .have i:=zu3 (t:=209) (e:=5) (m:=64) (g:=6) (by kernel_rfl) (by kernel_rfl) underlying209 underlying5 (by kernel_rfl) (by kernel_rfl) (Lib.laidMet.reads hl b);intro j d;have:=i.cell (g:=6) (by kernel_rfl) j (by simpa using d);rw[this]
  congr 2
  rw[List.getD_eq_getElem?_getD,List.getD_eq_getElem?_getD,List.getElem?_map];cases Lib.deBruijn64tab[j]? <;>rfl
 .exact zlq (t:=113) (g:=4) (by kernel_rfl) (by kernel_rfl) underlying113 (Lib.laidMet.reads hl k)
 .exact zlq (t:=113) (g:=5) (by kernel_rfl) (by kernel_rfl) underlying113 (Lib.laidMet.reads hl f)
end
open Gr
open _root_.Go.Lib (hid)
set_option maxRecDepth 100000
set_option maxHeartbeats 16000000
open Go.RowKit
namespace Gr
theorem znl {α:Type} (p q r:α->Bool) (l:List α) (h:∀x∈l,(p x=true->r x=true)/\(q x=true->r x=true)/\¬(p x=true/\q x=true)):l.countP p+l.countP q<=l.countP r:=by
 induction l with
 |nil=>simp
 |cons x l ih=>
  have h1:=ih (fun y d=>h y (.tail _ d));obtain⟨a,b,c⟩:=h x (.head _);rw[List.countP_cons,List.countP_cons,List.countP_cons];cases hp:p x<;>cases hq:q x<;>cases hr:r x<;>simp[hp,hq,hr]at a b c ⊢<;>omega
theorem LongR.le_n {ns:List Nd} {F:Nat->Nat} (hr:Refs ns) (hF:LongR (succ ns) ns.length F):∀(k v:Nat),F v<=k->v<ns.length->F v<=ns.length:=by
 classical
 have f:∀(k v:Nat),F v<=k->v<ns.length->F v<=(List.range ns.length).countP (fun i=>decide (Reach (succ ns) v i)):=by
  intro k
  induction k with
  |zero=>intro v h _;omega
  |succ k ih=>
   intro v h d;rcases hF.att v d with h1|⟨u,hu,h2,h3,x,hx,hn,h4⟩
   .rw[h1];unfold wt;apply List.countP_mono_left;intro i _ c;have:=of_decide_eq_true c;exact decide_eq_true this.1
   .have e:=hr.succ u x hx;have hp:=zkt (succ ns) ns.length v d;have g:=ih x (by omega) e;rw[h4];refine Nat.le_trans (Nat.add_le_add_left g _) ?_;unfold wt;refine znl _ _ _ _ (fun i _=>⟨fun c=>?_,fun c=>?_,?_⟩)
    .exact decide_eq_true (of_decide_eq_true c).1
    .exact decide_eq_true (h2.trans ((Reach.one hx).trans (of_decide_eq_true c)))
    .rintro⟨a,b⟩;exact hn ((of_decide_eq_true b).trans (of_decide_eq_true a).2)
 intro k v h d;exact Nat.le_trans (f k v h d) (Nat.le_trans List.countP_le_length (by simp))
end Gr
structure RchAt (w:World) (od:Nat) (ra:Addr) (ns:List Gr.Nd):Prop where
 lt:ra.block<od
 row:∀v,v<ns.length->∃ob,ob<od/\w.cell? (ra.add v)=some (.slice (some ⟨ob,0,none⟩) ns.length ns.length)/\Blk w ob 4 (bcells (marks ns v))
theorem RchAt.below {w w':World} {od:Nat} {ra:Addr} {ns:List Gr.Nd} (h:RchAt w od ra ns) (hb:Below od w w'):RchAt w' od ra ns:=
 ⟨h.lt,fun v d=>by
  obtain⟨c,a,e,b⟩:=h.row v d;exact⟨c,a,(hb.cell (by rw[zbe];exact h.lt)).trans e,b.below hb a⟩⟩
def DOk (F:Nat->Nat) (n:Nat) (D:List Nat):Prop:=D.length=n/\∀v,v<n->D.getD v 0=0\/D.getD v 0=F v
theorem DOk.set {F:Nat->Nat} {n:Nat} {D:List Nat} (h:DOk F n D) (v:Nat):DOk F n (D.set v (F v)):=by
 refine⟨by rw[List.length_set];exact h.1,fun u a=>?_⟩;by_cases he:v=u
 .subst he;right;exact za2 _ _ _ _ (by rw[h.1];exact a)
 .rw[Gr.getD_set_ne _ _ _ _ _ he];exact h.2 u a
theorem DOk.zero (F:Nat->Nat) (n:Nat):DOk F n (List.replicate n 0):=⟨by simp,fun v a=>.inl (by simp[List.getD_eq_getElem?_getD,a])⟩
structure LM (w:World) (od:Nat) (A:Option Addr) (vs:List NV) (ns:List Gr.Nd) (ra:Addr):Prop where
 at_:GAt w od A vs ns
 rch:RchAt w od ra ns
theorem LM.kb {w w':World} {od:Nat} {A:Option Addr} {vs:List NV} {ns:List Gr.Nd} {ra:Addr} (h:LM w od A vs ns ra) (hs:od<=w.heap.size) (hk:KB od w w'):LM w' od A vs ns ra:=
 ⟨h.at_.below (hk.below (Nat.le_refl _) hs),h.rch.below (hk.below (Nat.le_refl _) hs)⟩
theorem zuy {w w':World} {base od:Nat} {v:Value} {l:List Nat} (h:OwnRow intL w base 3 v l) (hk:KB od w w') (hb:od<base):OwnRow intL w' base 3 v l:=by
 obtain⟨c,b⟩:=h;refine⟨c,?_⟩;rcases b with h2|⟨g,cap,cur,he,hg,hB,hr⟩
 .exact .inl h2
 .have a:Blk w g 3 cur:=hB;exact .inr ⟨g,cap,cur,he,hg,hk.blk a (by omega),hr⟩
theorem zi5 (A:Option Addr) (c cR od:Nat) (root:Int) (vs:List NV) (ns:List Gr.Nd) (ra:Addr) (F:Nat->Nat) (hr:Refs ns) (hF:LongR (Gr.succ ns) ns.length F) (hnl:ns.length<=1000) (hks:∀n∈ns,n.keys.length<=1000/\n.items.length<=1000):
 ∀(f v:Nat) (D:List Nat) (w:World),F v<f->v<ns.length->LM w od A vs ns ra->DOk F ns.length D->Blk w od 3 (icells D)->
 Calls prog 39 #[.agg #[.slice A ns.length c,.int .i64 root],.slice (some ra) ns.length cR,.slice (some ⟨od,0,none⟩) ns.length ns.length,.int .i64 v] w fun e w'=>e=.returned (.int .i64 (F v))/\KB od w w'/\∃D',DOk F ns.length D'/\Blk w' od 3 (icells D'):=by
 intro f
 induction f with
 |zero=>intro v D w h;omega
 |succ f ih=>
  intro v D w br R hM hD hB;have bg:Hid (∀(x:Nat) (D:List Nat) (w:World),F x<F v->x<ns.length->LM w od A vs ns ra->DOk F ns.length D->Blk w od 3 (icells D)->
   Calls prog 39 #[.agg #[.slice A ns.length c,.int .i64 root],.slice (some ra) ns.length cR,.slice (some ⟨od,0,none⟩) ns.length ns.length,.int .i64 x] w fun e w'=>e=.returned (.int .i64 (F x))/\KB od w w'/\∃D',DOk F ns.length D'/\Blk w' od 3 (icells D')):=hid (fun x D w h=>ih x D w (by omega))
  have HM:=hid hM;have HR:=hid hr;have HF:=hid hF;have HD:=hid hD;have hvI:(v:Int)<(ns.length:Int):=by omega
  have bn:=hF.le_n hr (F v) v (Nat.le_refl _) R;have bu:=hF.pos R;obtain⟨Fv,Q⟩:=ex (F v)
  have aj:=hid Q;rw[Q]at bn bu;obtain⟨V,o⟩:=ex (w.alloc (.cells #[.slice A ns.length c,.int .i64 root] 24))
  have m:=hB.lt;obtain⟨C,S⟩:=ex w.heap.size
  have s:Hid (od<C/\C=w.heap.size):=hid ⟨by omega,S.symm⟩;have b1:Blk V C 24 #[.slice A ns.length c,.int .i64 root]:=by rw[<-o,<-S];exact Blk.new _ _ _
  have d1:Blk V od 3 (icells D):=by rw[<-o];exact hB.alloc _
  have k1:KB od w V:=by rw[<-o];exact(KB.refl _ _).alloc _
  have az:V.heap.size=C+1:=by rw[<-o,<-S];simp
  have ap:=hid b1;have a0:=hid d1;have aK:=hid k1;have a6:=hid az;obtain⟨dv,an⟩:=ex (D.getD v 0)
  have aY:Hid (dv=0\/dv=Fv):=hid (by rw[<-an,<-Q];exact hD.2 v R);have z0:V.cell? ⟨od,v,none⟩=some (.int .i64 (dv:Int)):=by rw[d1.cell,zab (by rw[hD.1];exact R),an]
  have bh:Hid (Value.int .i64 (F v:Int)=.int .i64 (Fv:Int)):=hid (by rw[Q]);have hvb:v<=1000:=by omega
  clear hM hr hF hD hB ih br m b1 d1 k1 az Q an;go_enter func39,ntmps39;go_upto_region 1 with fail;(try rw[o]);(try rw[S]);clear o S;by_cases hd0:0<dv
  .have aR:(0:Int)<(dv:Int):=by omega
   have bk:Hid (dv=Fv):=hid (by rcases aY.out with h|h<;>omega);clear hd0;go_wp2;go_ret;exact⟨by rw[bh.out,bk.out]<;>rfl,aK.out,D,HD.out,a0.out⟩
  .have aR:¬(0:Int)<(dv:Int):=by omega
   clear hd0 aY;go_upto_region 5 with fail;clear z0;go_loopw [9,10,11] (fun s9 s10 s11 wr=>∃(i b:Nat) (D:List Nat),i<=ns.length/\b<=ns.length/\s11=.int .i64 i/\s10=.int .i64 b/\s9=.int .i64 (lwt ns v i:Nat)/\Hid (KB od V wr/\DOk F ns.length D/\Blk wr od 3 (icells D)/\LBest ns F v i [] b)) (fun _ _ s11 _=>ns.length-(intOf s11).toNat)
   case atStart=>exact⟨0,0,D,by omega,by omega,rfl,rfl,rfl,hid ⟨KB.refl _ _,HD.out,a0.out,LBest.start⟩⟩
   case round=>
    obtain⟨i,b,D,hi,hb,rfl,rfl,rfl,l⟩:=hrel;obtain⟨g,bB⟩:∃g,g=wr:=⟨_,rfl⟩
    subst bB;have t:Hid (Blk g C 24 #[.slice A ns.length c,.int .i64 root]/\C+1<=g.heap.size/\KB od w g):=hid ⟨l.out.1.blk ap.out (by have:=s.out;omega),by have:=l.out.1.size;have:=a6.out;omega,aK.out.trans l.out.1⟩;have ae:Hid (LM g od A vs ns ra):=hid (HM.out.kb (by have:=s.out;omega) t.out.2.2);have g0:g.cell? ⟨C,0,none⟩=some (.slice A ns.length c):=t.out.1.cell 0;have bj:=zyi ns v i;have ac:=hid (zty ns v i);obtain⟨wg,ag⟩:=ex (lwt ns v i)
    rw[ag]at bj ac;have bd:=hid ag;(try rw[ag]);clear ag;by_cases m:i<ns.length
    .have aT:(i:Int)<(ns.length:Int):=by omega
     obtain⟨ov,a7,rv,bv⟩:=ae.out.rch.row v R;obtain⟨oi,bt,ri,bi⟩:=ae.out.rch.row i m;obtain⟨p,hp⟩:=ex ((marks ns v).getD i false)
     obtain⟨q,X⟩:=ex ((marks ns i).getD v false)
     have y1:g.cell? ⟨ov,i,none⟩=some (.bool p):=by rw[bv.cell,zae (by rw[zav HR.out R];exact m),hp]
     have y2:g.cell? ⟨oi,v,none⟩=some (.bool q):=by rw[bi.cell,zae (by rw[zav HR.out m];exact R),X]
     have G:Hid (Gr.mt ns v i=(p && q)):=hid (by unfold Gr.mt mkd;rw[hp,X]);have hib:i<=1000:=by omega
     clear bv bi a7 bt hp X;cases p with
     |false=>
      have M:Hid (LBest ns F v (i+1) [] b/\lwt ns v (i+1)=wg):=hid ⟨l.out.2.2.2.skip (by rw[G.out];rfl),by rw[ac.out,if_neg (by rw[G.out];simp)];rfl⟩;go_wp2;go_roundw
      case rel=>exact⟨i+1,b,D,by omega,hb,by go_num,rfl,by rw[M.out.2],hid ⟨l.out.1,l.out.2.1,l.out.2.2.1,M.out.1⟩⟩
      case measure=>simp[intOf];omega
     |true=>
      cases q with
      |false=>
       have M:Hid (LBest ns F v (i+1) [] b/\lwt ns v (i+1)=wg):=hid ⟨l.out.2.2.2.skip (by rw[G.out];rfl),by rw[ac.out,if_neg (by rw[G.out];simp)];rfl⟩;go_wp2;go_roundw
       case rel=>exact⟨i+1,b,D,by omega,hb,by go_num,rfl,by rw[M.out.2],hid ⟨l.out.1,l.out.2.1,l.out.2.2.1,M.out.1⟩⟩
       case measure=>simp[intOf];omega
      |true=>
       have bw:Hid (lwt ns v (i+1)=wg+1):=hid (by rw[ac.out,if_pos (by rw[G.out];rfl)]);have aG:Hid (Gr.mt ns v i=true):=hid G.out;obtain⟨ad,k,i2,rfl,L⟩:=ae.out.at_.node m;obtain⟨ka,kn,kc⟩:=k;obtain⟨Z,bm,ic⟩:=i2;have aw:ns[i]∈ns:=List.getElem_mem m;obtain⟨a9,aN⟩:=hks _ aw;have P:Hid (Gr.succ ns i=ns[i].keys++ns[i].items/\∀x∈ns[i].keys++ns[i].items,x<ns.length):=hid ⟨zca m,HR.out _ aw⟩;obtain⟨n,hn⟩:=ex (ns[i])
       rw[hn]at L P a9 aN;obtain rfl:kn=n.keys.length:=L.kn;obtain rfl:bm=n.items.length:=L.inn;have x0:=L.c0;have x1:=L.c1;have x2:=L.c2;have x3:=L.c3;have x4:=L.c4;have aZ:Hid (RowAt intL g od ka n.keys/\RowAt intL g od Z n.items):=hid ⟨L.keys,L.items⟩;clear L hn aw;go_upto_region 10 with fail;obtain⟨a,ak⟩:=ex (g.alloc (.cells #[.int .i64 n.kind,.string ⟨n.text.toArray⟩,.bool n.ord,.slice ka n.keys.length kc,.slice Z n.items.length ic] 38))
       obtain⟨Y,ai⟩:=ex g.heap.size
       have d:Hid (Blk a Y 38 #[.int .i64 n.kind,.string ⟨n.text.toArray⟩,.bool n.ord,.slice ka n.keys.length kc,.slice Z n.items.length ic]/\Below g.heap.size g a/\Y<a.heap.size/\g.heap.size<=Y):=hid (by rw[<-ak,<-ai];exact⟨Blk.new _ _ _,(Below.refl _ _).alloc (Nat.le_refl _) _,by simp,Nat.le_refl _⟩);(try rw[ak]);(try rw[ai]);have s3:a.cell? ⟨Y,3,none⟩=some (.slice ka n.keys.length kc):=d.out.1.cell 3;have s4:a.cell? ⟨Y,4,none⟩=some (.slice Z n.items.length ic):=d.out.1.cell 4;clear ak ai x0 x1 x2 x3 x4 g0 y1 y2 rv ri;go_cut [13] (fun s13 wx=>∃A2 c2,s13=.slice A2 (n.keys.length+n.items.length) c2/\Hid (OwnRow intL wx a.heap.size 3 (.slice A2 (n.keys.length+n.items.length) c2) (n.keys++n.items)/\Below a.heap.size a wx))
       case first=>
        have s3a:(a.alloc (.cells #[] 3)).cell? ⟨Y,3,none⟩=some (.slice ka n.keys.length kc):=(d.out.1.alloc _).cell 3;have s4a:(a.alloc (.cells #[] 3)).cell? ⟨Y,4,none⟩=some (.slice Z n.items.length ic):=(d.out.1.alloc _).cell 4;have I:OwnRow intL (a.alloc (.cells #[] 3)).drew a.heap.size 3 (.slice (some ⟨a.heap.size,0,none⟩) ([]:List Nat).length 0) []:=zfj a;have z:od<=g.heap.size:=by have:=s.out;have:=t.out.2.1;omega
        have al:Below od g (a.alloc (.cells #[] 3)).drew:=below_drewN ((d.out.2.1.mono z).alloc (Nat.le_trans z d.out.2.1.size) _) 1;have aI:RowAt intL (a.alloc (.cells #[] 3)).drew od ka n.keys:=aZ.out.1.below al;have ah:RowAt intL (a.alloc (.cells #[] 3)).drew od Z n.items:=aZ.out.2.below al;have O:Hid (a.heap.size<=(a.alloc (.cells #[] 3)).drew.heap.size/\od<=a.heap.size/\Y<a.heap.size):=hid ⟨by simp,Nat.le_trans z d.out.2.1.size,d.out.1.lt⟩;have aA:Hid (Blk (a.alloc (.cells #[] 3)).drew Y 38 #[.int .i64 n.kind,.string ⟨n.text.toArray⟩,.bool n.ord,.slice ka n.keys.length kc,.slice Z n.items.length ic]/\RowAt intL (a.alloc (.cells #[] 3)).drew od Z n.items):=hid ⟨d.out.1.alloc _,ah⟩;have a5:([]:List Nat).length+n.keys.length<=1073741824:=by simp;omega
        have bo:n.keys.length+n.items.length<=1073741824:=by omega
        have aq:=O.out.1;clear al ah z;go_region_law (first
         | (refine zan _ rfl (.tmp 56) (.tmp 58) 36 3 8 rfl intT a.heap.size (.slice (some ⟨a.heap.size,0,none⟩) ([]:List Nat).length 0) [] rfl I _ _ kc n.keys rfl aI a5 aq ?_;intro v1 V r aW a4;rw[List.nil_append]at r;obtain⟨A8,c8,bz,_⟩:=r.form;subst bz;have T:=I.grown_below aW aq;have s41:V.cell? ⟨Y,4,none⟩=some (.slice Z n.items.length ic):=(aA.out.1.below T O.out.2.2).cell 4;have aB:RowAt intL V od Z n.items:=aA.out.2.below (T.mono O.out.2.1);have o:a.heap.size<=V.heap.size:=Nat.le_trans aq T.size;have ap:=hid T;clear aW a4 T)
         | (refine zan _ rfl (.tmp 59) (.tmp 61) 36 3 8 rfl intT a.heap.size (.slice A8 n.keys.length c8) n.keys rfl r _ _ ic n.items rfl aB bo o ?_;intro v2 w2 u aM aQ;obtain⟨A9,c9,aX,_⟩:=u.form;rw[List.length_append]at aX;subst aX;have a8:Hid (OwnRow intL w2 a.heap.size 3 (.slice A9 (n.keys.length+n.items.length) c9) (n.keys++n.items)/\Below a.heap.size a w2):=hid ⟨u,(below_drewN ((Below.refl _ _).alloc (Nat.le_refl _) _) 1).trans (ap.out.trans (r.grown_below aM o))⟩;clear u aM aQ))
        all_goals
         go_wp2;go_meet;exact⟨A9,c9,rfl,a8⟩
       case rest=>
        obtain⟨A2,c2,rfl,HN⟩:=hcut;have bb:Hid (KB od g wc):=hid ((KB.of_below d.out.2.1).trans (KB.of_below HN.out.2));have aP:Hid (od<a.heap.size/\a.heap.size<=wc.heap.size):=hid ⟨by have:=d.out;have:=s.out;have:=t.out;omega,HN.out.2.size⟩;have bc:Hid (Blk wc od 3 (icells D)):=hid (by
         have h1:=l.out.2.2.1.below d.out.2.1 l.out.2.2.1.lt;exact h1.below HN.out.2 h1.lt)
        have aH:Hid (OwnRow intL wc a.heap.size 3 (.slice A2 (n.keys.length+n.items.length) c2) (n.keys++n.items)):=hid HN.out.1;obtain⟨U,af⟩:=ex (n.keys++n.items)
        obtain⟨nl,K⟩:=ex (n.keys.length+n.items.length)
        have aU:U.length=nl:=by rw[<-af,<-K];simp
        have ab:=hid aU;have hnb:nl<=2000:=by omega
        rw[K,af]at aH;rw[af]at P;(try rw[K]);clear HN af s3 s4 aU;go_upto_region 12 with fail;go_loopw [10,14] (fun s10 s14 wr=>∃(j b:Nat) (D:List Nat),j<=nl/\b<=ns.length/\s14=.int .i64 j/\s10=.int .i64 b/\Hid (KB od wc wr/\DOk F ns.length D/\Blk wr od 3 (icells D)/\LBest ns F v i (U.take j) b)) (fun _ s14 _=>nl-(intOf s14).toNat)
        case atStart=>exact⟨0,b,D,by omega,hb,rfl,rfl,hid ⟨KB.refl _ _,l.out.2.1,bc.out,by simpa using l.out.2.2.2⟩⟩
        case round=>
         obtain⟨j,b,D,hj,hb,rfl,rfl,B⟩:=hrel;obtain⟨E,bp⟩:∃E,E=wr:=⟨_,rfl⟩
         subst bp;have ar:Hid (KB od g E):=hid (bb.out.trans B.out.1);by_cases hlj:j<nl
         .have aV:(j:Int)<(nl:Int):=by omega
          have N:j<U.length:=by rw[ab.out];exact hlj
          obtain⟨y,hy⟩:=ex (U[j])
          have am:Hid (OwnRow intL E a.heap.size 3 (.slice A2 nl c2) U):=hid (zuy aH.out B.out.1 aP.out.1);obtain⟨aC,rfl,_,y0⟩:=zaf (zd4 am.out).1 N;rw[hy]at y0;have aa:y<ns.length:=P.out.2 y (by rw[<-hy];exact List.getElem_mem N);have hyI:(y:Int)<(ns.length:Int):=by omega
          have bA:Hid (y∈Gr.succ ns i):=hid (by rw[P.out.1,<-hy];exact List.getElem_mem N);have aO:Hid (U.take (j+1)=U.take j++[y]):=hid (by rw[List.take_succ_eq_append_getElem N,hy]);have a3:Hid (LM E od (some ad) vs ns ra):=hid (ae.out.kb (by have:=s.out;have:=t.out;omega) ar.out);obtain⟨oy,bs,ry,bY⟩:=a3.out.rch.row y aa;obtain⟨q,X⟩:=ex ((marks ns y).getD v false)
          have y2:E.cell? ⟨oy,v,none⟩=some (.bool q):=by rw[bY.cell,zae (by rw[zav HR.out aa];exact R),X]
          have ax:Hid (Blk E C 24 #[.slice (some ad) ns.length c,.int .i64 root]/\C<E.heap.size):=hid (by have h:=ar.out.blk t.out.1 (by have:=s.out;omega);exact⟨h,h.lt⟩);have hjb:j<=2000:=by omega
          clear bY bs N hy;cases q with
          |true=>
           have J:Hid (LBest ns F v i (U.take (j+1)) b):=hid (by rw[aO.out];exact B.out.2.2.2.old X);clear X;go_wp2;go_roundw
           case rel=>exact⟨j+1,b,D,by omega,hb,by go_num,rfl,hid ⟨B.out.1,B.out.2.1,B.out.2.2.1,J.out⟩⟩
           case measure=>simp[intOf];omega
          |false=>
           have bx:Hid (F y<F v):=hid (HF.out.lt HR.out R m aG.out bA.out X);have ao:=hid (HF.out.le_n HR.out (F y) y (Nat.le_refl _) aa);have J:Hid (LBest ns F v i (U.take (j+1)) (max b (F y))):=hid (by rw[aO.out];exact B.out.2.2.2.new X);have a2:Hid (∀W,Below E.heap.size E W->Calls prog 39 #[.agg #[.slice (some ad) ns.length c,.int .i64 root],.slice (some ra) ns.length cR,.slice (some ⟨od,0,none⟩) ns.length ns.length,.int .i64 y] W fun e w'=>e=.returned (.int .i64 (F y))/\KB od E w'/\∃D',DOk F ns.length D'/\Blk w' od 3 (icells D')):=hid (fun W hW=>
            (bg.out y D W bx.out aa (a3.out.kb (by have:=s.out;have:=ax.out.2;omega) (KB.of_below hW)) B.out.2.1 (B.out.2.2.1.below hW B.out.2.2.1.lt)).mono (fun _ _ ⟨e1,e2,e3⟩=>⟨e1,(KB.of_below hW).trans e2,e3⟩))
           obtain⟨fy,aJ⟩:=ex (F y)
           rw[aJ]at a2 J ao;have hfb:fy<=1000:=by have:=ao.out;omega
           have hbb:b<=1000:=by omega
           have aE:Hid (max b fy<=ns.length):=hid (by have:=ao.out;omega);obtain⟨mx,H⟩:=ex (max b fy)
           rw[H]at J aE;obtain⟨q0,q1⟩:=cells2 ax.out.1;have bl:Hid (∀W,KB od E W->W.cell? ⟨C,0,none⟩=some (.slice (some ad) ns.length c)/\W.cell? ⟨C,1,none⟩=some (.int .i64 root)/\W.cell? (aC.add j)=some (.int .i64 y)):=hid (fun W hW=>by
            have h:=hW.blk ax.out.1 (by have:=s.out;omega);refine⟨h.cell 0,h.cell 1,?_⟩;obtain⟨ad4,e4,_,y4⟩:=zaf (zd4 (zuy am.out hW aP.out.1)).1 (show j<U.length by rw[ab.out];exact hlj);injection e4 with e4
            subst e4;rw[y4];obtain⟨ad5,e5,_,y5⟩:=zaf (zd4 am.out).1 (show j<U.length by rw[ab.out];exact hlj);injection e5 with e5
            subst e5;rw[y0]at y5;exact y5.symm)
           clear X aJ;go_upto_region 15 with fail;clear y2 ry;have av:((b:Int)<(fy:Int)/\mx=fy)\/(¬(b:Int)<(fy:Int)/\mx=b):=by omega
           clear H;rcases av with⟨aD,H⟩|⟨aD,H⟩
           all_goals
            have aS:=hid H;clear H;go_region_held3 (fun w'=>w'.cell? ⟨C,0,none⟩=some (.slice (some ad) ns.length c)/\w'.cell? ⟨C,1,none⟩=some (.int .i64 root)/\w'.cell? (aC.add j)=some (.int .i64 y))
             (first|go_keep|exact bl.out _ (by(first|assumption|exact KB.refl _ _|exact(KB.refl _ _).drewN 1|exact KB.drewN (by assumption) 1))) (first
             | (go_at_call 39;(with_reducible refine(a2.out _ ?_).mono ?_);(first|assumption|exact Below.refl _ _|exact(Below.refl _ _).drew|exact Below.drew (by assumption));rintro e1 ay ⟨rfl,aL,D1,a1,aF⟩))
            all_goals
             have H3:Hid (KB od E ay/\DOk F ns.length D1/\Blk ay od 3 (icells D1)):=hid ⟨aL,a1,aF⟩;clear aL a1 aF q0 q1 y0;go_wp2;go_roundw
             case rel=>exact⟨j+1,mx,D1,by omega,aE.out,by go_num,by(rw[aS.out];first|rfl| (congr 1;omega)),hid ⟨B.out.1.trans H3.out.1,H3.out.2.1,H3.out.2.2,J.out⟩⟩
             case measure=>simp[intOf];omega
         .have aV:¬(j:Int)<(nl:Int):=by omega
          have HE:Hid (LBest ns F v (i+1) [] b):=hid (B.out.2.2.2.next aG.out (by rw[P.out.1,List.take_of_length_le (by rw[ab.out];omega)]));go_wp2;go_roundw
          case rel=>exact⟨i+1,b,D,by omega,hb,by go_num,rfl,by rw[bw.out];go_num,hid ⟨l.out.1.trans ar.out,B.out.2.1,B.out.2.2.1,HE.out⟩⟩
          case measure=>simp[intOf];omega
    .have aT:¬(i:Int)<(ns.length:Int):=by omega
     have au:Hid (wg+b=Fv):=hid (by
      obtain rfl:i=ns.length:=by omega
      have:=l.out.2.2.2.last HR.out R HF.out;rw[bd.out,aj.out]at this;exact this)
     have hsb:wg+b<=1000:=by rw[au.out];omega
     have zf:∀k,g.frozen? ⟨od,k,none⟩=false:=l.out.2.2.1.frozen;have z0:g.cell? ⟨od,v,none⟩=some (.int .i64 ((D.getD v 0:Nat):Int)):=by rw[l.out.2.2.1.cell,zab (by rw[l.out.2.1.1];exact R)]
     have bf:Hid (DOk F ns.length (D.set v (F v))):=hid (l.out.2.1.set v);have bq:Hid (KB od w g):=hid t.out.2.2;have ba:Hid (Blk (g.setCell ⟨od,v,none⟩ (.int .i64 ((wg:Int)+(b:Int)))) od 3 (icells (D.set v (F v)))):=hid (by
      have h1:=l.out.2.2.1.set_ v (.int .i64 ((wg:Int)+(b:Int)));have e:(wg:Int)+(b:Int)=((F v:Nat):Int):=by rw[aj.out,<-au.out];omega
      rw[e,zam]at h1;rw[e];exact h1)
     have be:Hid (Value.int .i64 ((wg:Int)+(b:Int))=.int .i64 (F v:Int)):=hid (by rw[aj.out,<-au.out];congr 1);go_wp2;go_ret;exact⟨by rw[<-be.out]<;>rfl,bq.out.set _ _,D.set v (F v),bf.out,ba.out⟩
def slL:Lay SV:={enc:=fun x=>[x.v],sz:=1,len:=fun _=>rfl,one:=fun x u hu=>by simp at hu;subst hu;rfl,pos:=by omega}
theorem slT:SliceT prog slL 62 51 24:=zbz slL 62 51 (.slice none 0 0) 24 underlying62 (by kernel_rfl) rfl (by omega)
structure RD (w wr:World) (gc:Array Value) (v:Value) (R:List SV) (ns:List Gr.Nd):Prop where
 below:Below w.heap.size w wr
 gbox:Blk wr w.heap.size 24 gc
 own:OwnRow slL wr (w.heap.size+1) 51 v R
 hd:w.heap.size+1<=wr.heap.size
 rows:∀j (hj:j<R.length),∃ob,R[j]=⟨some ⟨ob,0,none⟩,ns.length,ns.length⟩/\Blk wr ob 4 (bcells (marks ns j))
theorem zuz {w:World} {base:Nat} {v:Value} {R:List SV} {k:Nat} {cs:Array Value} (h:OwnRow slL w base 51 v R) (hb:Blk w k 4 cs):some k≠v.ownBlock:=by
 rcases h.2 with⟨rfl,_⟩|⟨g,cap,cur,rfl,_,a,_⟩
 .exact fun e=>by cases e
 .intro e;have e:some k=some g:=e;injection e with e
  subst e;have hb:w.heap[k]? =some (.cells cs 4 (0,0)):=hb;rw[hb]at a;injection a with a
  injection a with _ a _
  exact absurd a (by decide)
section
variable {w wr w2:World} {gc:Array Value} {v v':Value} {R:List SV} {ns:List Gr.Nd} {A:Option Addr} {c:Nat}
theorem RD.later (h:RD w wr gc v R ns) (hb:Below wr.heap.size wr w2):RD w w2 gc v R ns:=
 ⟨h.below.trans (hb.mono h.below.size),h.gbox.below hb h.gbox.lt,h.own.later hb,Nat.le_trans h.hd hb.size,fun j d=>by
  obtain⟨e,b,a⟩:=h.rows j d;exact⟨e,b,a.below hb a.lt⟩⟩
theorem RD.alloc (h:RD w wr gc v R ns) (o:Obj):RD w (wr.alloc o) gc v R ns:=h.later ((Below.refl _ _).alloc (Nat.le_refl _) _)
theorem RD.grown (h:RD w wr gc v R ns) {ob:Nat} (hob:Blk wr ob 4 (bcells (marks ns R.length))) (ho:OwnRow slL w2 (w.heap.size+1) 51 v' (R++[⟨some ⟨ob,0,none⟩,ns.length,ns.length⟩])) (hg:wr.grownBy w2 v.ownBlock):RD w w2 gc v' (R++[⟨some ⟨ob,0,none⟩,ns.length,ns.length⟩]) ns:=
 ⟨h.below.trans ((h.own.grown_below hg h.hd).mono (by omega)),h.gbox.grown hg (fun e=>absurd (h.own.lt _ e.symm).1 (by omega)),ho,Nat.le_trans h.hd (h.own.grown_below hg h.hd).size,fun j g=>by
  by_cases hjl:j<R.length
  .obtain⟨a,f,d⟩:=h.rows j hjl;exact⟨a,by rw[List.getElem_append_left hjl];exact f,d.grown hg (zuz h.own d)⟩
  .have b:j=R.length:=by simp at g;omega
   subst b;exact⟨ob,by rw[List.getElem_concat_length rfl],hob.grown hg (zuz h.own hob)⟩⟩
theorem RD.rch (h:RD w wr gc (.slice A R.length c) R ns) (hl:R.length=ns.length) (hn:0<ns.length):∃ra,A=some ra/\RchAt wr wr.heap.size ra ns:=by
 obtain⟨A',c',e,f⟩:=h.own.form;injection e with e1 _ e2
 subst e1;obtain⟨ra,b,j,_⟩:=f.get (k:=0) (by omega);refine⟨ra,b,j,fun v hv=>?_⟩;obtain⟨i,l,d⟩:=h.rows v (by omega);obtain⟨ra2,a,h6,g,_⟩:=f.get (k:=v) (by omega);rw[b]at a;injection a with a
 subst a;refine⟨i,d.lt,?_,d⟩;have:=g (R[v].v) rfl;rw[show v*slL.sz=v from Nat.mul_one v,l]at this;exact this
end
namespace Gr
def treeI (ns:List Nd) (u k:Nat):Bool:=(((ns[u]?.map Nd.items).getD []).take k).all (fun x=>!(mkd (marks ns x) u))
def treeN (ns:List Nd) (i:Nat):Bool:=(List.range i).all (fun u=>((ns[u]?.map Nd.items).getD []).all (fun x=>!(mkd (marks ns x) u)))
theorem znm (ns:List Nd) (u:Nat):treeI ns u 0=true:=by unfold treeI;simp
theorem znn {ns:List Nd} {u k:Nat} (hu:u<ns.length) (hk:k<ns[u].items.length):treeI ns u (k+1)=(treeI ns u k && !(mkd (marks ns ns[u].items[k]) u)):=by
 unfold treeI;rw[List.getElem?_eq_getElem hu];simp only[Option.map_some,Option.getD_some];rw[List.take_succ_eq_append_getElem hk,List.all_append];simp
theorem zno {ns:List Nd} {i k:Nat} (hi:i<ns.length) (hk:ns[i].items.length<=k):treeN ns (i+1)=(treeN ns i && treeI ns i k):=by
 unfold treeN treeI;rw[List.range_succ,List.all_append];simp only[List.all_cons,List.all_nil,Bool.and_true];rw[List.getElem?_eq_getElem hi];simp only[Option.map_some,Option.getD_some];rw[List.take_of_length_le hk]
end Gr
theorem znp (A:Option Addr) (c:Nat) (r:Nat) (vs:List NV) (ns:List Gr.Nd) (hw:WellF ns r) (hnl:ns.length<=1000) (hks:∀n∈ns,n.keys.length<=1000/\n.items.length<=1000) (w:World) (h:GAt w w.heap.size A vs ns):
 Calls prog 21 #[.agg #[.slice A ns.length c,.int .i64 r]] w fun e w'=>e=.returned (.tuple #[.int .i64 (depth ns r).1,.bool (depth ns r).2])/\Below w.heap.size w w':=by
 have H:=hid h;obtain⟨F,hF,ac,ak⟩:=hw.depth;have HW:=hid hw;have HF:=hid hF;have aA:=hid ac;have aB:=hid ak;have aq:=hw.root;have T:=hF.le_n hw.refs (F r) r (Nat.le_refl _) hw.root;obtain⟨gc,D⟩:∃gc:Array Value,#[.slice A ns.length c,.int .i64 r]=gc:=⟨_,rfl⟩
 have m:Hid (gc[0]? =some (.slice A ns.length c)/\gc[1]? =some (.int .i64 r)):=hid (by rw[<-D];exact⟨rfl,rfl⟩);obtain⟨w1,B⟩:=ex (w.alloc (.cells #[.slice A ns.length c,.int .i64 r] 24))
 have aC:Hid (RD w w1 gc (.slice none 0 0) [] ns):=hid (by rw[<-B,<-D];exact⟨(Below.refl _ _).alloc (Nat.le_refl _) _,Blk.new _ _ _,OwnRow.nil,by simp,fun j p=>by simp at p⟩);have ar:=hid (fun a ha W t=>zcy A c a (r:Int) vs ns hw.refs hnl hks ha W t);clear h D hw hF ac ak;go_enter func21,ntmps21;go_upto_region 3 with fail;(try rw[B]);clear B;go_loopw [4,5] (fun s4 s5 wr=>∃(i:Nat) (R:List SV) (AL:Option Addr) (cL:Nat),i<=ns.length/\R.length<=ns.length/\s5=.int .i64 i/\s4=.slice AL R.length cL/\Hid (RD w wr gc (.slice AL R.length cL) R ns/\R.length=i)) (fun _ s5 _=>ns.length-(intOf s5).toNat)
 case atStart=>exact⟨0,[],none,0,by omega,by simp,rfl,rfl,hid ⟨aC.out,rfl⟩⟩
 case round=>
  obtain⟨i,R,AL,cL,hi,hRl,rfl,rfl,d⟩:=hrel;obtain⟨b,aF⟩:∃b,b=wr:=⟨_,rfl⟩
  subst aF;have g0:b.cell? ⟨w.heap.size,0,none⟩=some (.slice A ns.length c):=by rw[d.out.1.gbox.cell];exact m.out.1
  have g1:b.cell? ⟨w.heap.size,1,none⟩=some (.int .i64 r):=by rw[d.out.1.gbox.cell];exact m.out.2
  have hib:i<=1000:=by omega
  by_cases hlt:i<ns.length
  .have Y:(i:Int)<(ns.length:Int):=by omega
   have HC:=hid (ar.out i hlt b ((H.out.below d.out.1.below).more d.out.1.below.size));go_wp2_with fail;refine HC.out.mono ?_;rintro e w2 ⟨I,rfl,ao,x,N⟩;have f:Hid (RD w w2 gc (.slice AL R.length cL) R ns/\Blk w2 I 4 (bcells (marks ns i))/\w.heap.size+1<=w2.heap.size):=hid ⟨d.out.1.later x,N,Nat.le_trans d.out.1.hd x.size⟩;clear ao x N g0 g1;go_wp2_with (at_builtin;go_must (refine zaa _ rfl (.tmp 16) (.tmp 20) 62 51 24 rfl slT (w.heap.size+1) (.slice AL R.length cL) R rfl (f.out.1.own.alloc _) _ _ 1 ([⟨some ⟨I,0,none⟩,ns.length,ns.length⟩]:List SV) rfl (RowAt.lit1 _ _ rfl _ ?_) ?_ ?_ ?_))
   any_goals (first|rfl| (have:=f.out.2.2;omega)| (have:=f.out.2.2;simp;omega)| (rw[World.size_alloc];have:=f.out.2.2;omega))
   intro v' w5 l hg az;have E:Hid (RD w w5 gc v' (R++([⟨some ⟨I,0,none⟩,ns.length,ns.length⟩]:List SV)) ns/\(R++([⟨some ⟨I,0,none⟩,ns.length,ns.length⟩]:List SV)).length=i+1):=hid ⟨(f.out.1.alloc _).grown (by rw[d.out.2];exact f.out.2.1.alloc _) l hg,by simp[d.out.2]⟩;obtain⟨A5,c5,ag,_⟩:=l.form;obtain⟨R5,O⟩:=ex (R++([⟨some ⟨I,0,none⟩,ns.length,ns.length⟩]:List SV))
   rw[O]at E ag;subst ag;clear l hg az O;go_wp2;go_roundw
   case rel=>exact⟨i+1,R5,A5,c5,by omega,by rw[E.out.2];omega,by go_num,rfl,E⟩
   case measure=>simp[intOf];omega
  .have Y:¬(i:Int)<(ns.length:Int):=by omega
   obtain⟨ra,rfl,Z⟩:=d.out.1.rch (by rw[d.out.2];omega) (by omega);have V:=hid Z;have ab:Hid (R.length=ns.length):=hid (by rw[d.out.2];omega);obtain⟨rl,g⟩:=ex R.length
   have hrlI:(ns.length:Int)<=(rl:Int):=by have:=ab.out;omega
   have U:Hid (rl=ns.length):=hid (by rw[<-g];exact ab.out);have L:Hid (Below w.heap.size w b):=hid d.out.1.below;have P:=hid ((H.out.below d.out.1.below).more d.out.1.below.size);(try rw[g]);clear Z g;go_upto_region 8 with fail;go_loop [6,7] (fun s6 s7=>∃k:Nat,k<=ns.length/\s7=.int .i64 k/\s6=.bool (treeN ns k)) (fun _ s7=>ns.length-(intOf s7).toNat)
   case atStart=>exact⟨0,by omega,rfl,rfl⟩
   case round=>
    obtain⟨k,hk,rfl,rfl⟩:=hrel;by_cases hlk:k<ns.length
    .have X:(k:Int)<(ns.length:Int):=by omega
     have z:ns[k]∈ns:=List.getElem_mem hlk;obtain⟨av,am⟩:=hks _ z;have u:=hid (HW.out.refs _ z);have aj:Hid (∀j (p:j<ns[k].items.length),treeI ns k (j+1)=(treeI ns k j && !(mkd (marks ns ns[k].items[j]) k))):=hid (fun j p=>znn hlk p);have ae:Hid (∀j,ns[k].items.length<=j->treeN ns (k+1)=(treeN ns k && treeI ns k j)):=hid (fun j p=>zno hlk p);obtain⟨ad,ks,aE,rfl,M⟩:=P.out.node hlk;obtain⟨ka,kn,kc⟩:=ks;obtain⟨ia,ap,ic⟩:=aE;obtain⟨n,hn⟩:=ex (ns[k])
     rw[hn]at M am u;have al:Hid (∀j (p:j<n.items.length),treeI ns k (j+1)=(treeI ns k j && !(mkd (marks ns n.items[j]) k))):=hid (by subst hn;exact aj.out);have s:Hid (∀j,n.items.length<=j->treeN ns (k+1)=(treeN ns k && treeI ns k j)):=hid (by subst hn;exact ae.out);obtain rfl:ap=n.items.length:=M.inn;have x4:=M.c4;have an:Hid (RowAt intL b b.heap.size ia n.items):=hid M.items;obtain⟨tn,J⟩:=ex (treeN ns k)
     (try rw[J]);rw[J]at s;have hkb:k<=1000:=by omega
     clear M hn z av J aj ae;go_upto_region 11 with fail;go_loop [6,8] (fun s6 s8=>∃j:Nat,j<=n.items.length/\s8=.int .i64 j/\s6=.bool (tn && treeI ns k j)) (fun _ s8=>n.items.length-(intOf s8).toNat)
     case atStart=>exact⟨0,by omega,rfl,by rw[znm,Bool.and_true]⟩
     case round=>
      obtain⟨j,p,rfl,rfl⟩:=hrel;obtain⟨tb,K⟩:=ex (tn && treeI ns k j)
      (try rw[K]);have af:=hid K;clear K;by_cases hlj:j<n.items.length
      .have aa:(j:Int)<(n.items.length:Int):=by omega
       obtain⟨y,hy⟩:=ex (n.items[j])
       obtain⟨adi,rfl,_,y0⟩:=zaf an.out hlj;rw[hy]at y0;have ah:y<ns.length:=u.out y (List.mem_append_right _ (by rw[<-hy];exact List.getElem_mem hlj));have hyI:(y:Int)<(rl:Int):=by omega
       obtain⟨oy,ax,ry,bY⟩:=V.out.row y ah;obtain⟨q,hq⟩:=ex ((marks ns y).getD k false)
       have y2:b.cell? ⟨oy,k,none⟩=some (.bool q):=by rw[bY.cell,zae (by rw[zav HW.out.refs ah];exact hlk),hq]
       have S:Hid ((tn && treeI ns k (j+1))=(tb && !q)):=hid (by rw[al.out j hlj,<-Bool.and_assoc,af.out,hy];unfold mkd;rw[hq]);have hjb:j<=1000:=by omega
       clear bY ax hy hq;cases tb with
       |false=>
        go_wp2;go_round
        case rel=>exact⟨j+1,by omega,by go_num,by rw[S.out];rfl⟩
        case measure=>simp[intOf];omega
       |true=>
        go_wp2;go_round
        case rel=>exact⟨j+1,by omega,by go_num,by rw[S.out];rfl⟩
        case measure=>simp[intOf];omega
      .have aa:¬(j:Int)<(n.items.length:Int):=by omega
       have HE:Hid (treeN ns (k+1)=tb):=hid (by rw[s.out j (by omega),af.out]);go_wp2;go_round
       case rel=>exact⟨k+1,by omega,by go_num,by rw[HE.out]⟩
       case measure=>simp[intOf];omega
    .have X:¬(k:Int)<(ns.length:Int):=by omega
     have ai:Hid (treeN ns k=(depth ns r).2):=hid (by
      obtain rfl:k=ns.length:=by omega
      rw[aB.out];rfl)
     obtain⟨tr,C⟩:=ex (treeN ns k)
     (try rw[C]);rw[C]at ai;obtain⟨fr,o⟩:=ex (F r)
     have aw:Hid ((depth ns r).1=(fr:Int)-1):=hid (by rw[aA.out,o]);have Q:Hid (fr<=ns.length):=hid (by rw[<-o];exact T);have hmk:=za3 ns.length (by omega);have au:Hid (∀W od,Below b.heap.size b W->b.heap.size<=od->Blk W od 3 (icells (List.replicate ns.length 0))->Calls prog 39 #[.agg #[.slice A ns.length c,.int .i64 r],.slice (some ra) rl cL,.slice (some ⟨od,0,none⟩) ns.length ns.length,.int .i64 r] W fun e w'=>e=.returned (.int .i64 fr)/\Below b.heap.size b w'):=hid (fun W od t G hB=>by
      rw[U.out];refine(zi5 A c cL od (r:Int) vs ns ra F HW.out.refs HF.out hnl hks (F r+1) r (List.replicate ns.length 0) W (by omega) aq ⟨(P.out.below t).more G,?_⟩ (DOk.zero F ns.length) hB).mono ?_
      .have:=V.out.below t;exact⟨Nat.lt_of_lt_of_le this.lt G,fun v hv=>by
        obtain⟨I,h1,h2⟩:=this.row v hv;exact⟨I,by omega,h2⟩⟩
      .rintro e w' ⟨h1,h2,_⟩;exact⟨by rw[h1,o],t.trans (h2.below G t.size)⟩)
     have hfb:fr<=1000:=by have:=Q.out;omega
     clear o C hlk hk T;go_upto_region 14 with fail;have ay:Hid (∀W,Below b.heap.size b W->W.cell? ⟨w.heap.size,0,none⟩=some (.slice A ns.length c)/\W.cell? ⟨w.heap.size,1,none⟩=some (.int .i64 r)):=hid (fun W t=>by
      have:=d.out.1.gbox.below t d.out.1.gbox.lt;exact⟨by rw[this.cell];exact m.out.1,by rw[this.cell];exact m.out.2⟩)
     go_cut [2,3] (fun s2 s3 wx=>s2=.int .i64 ((fr:Int)-1)/\s3=.bool tr/\Hid (Below b.heap.size b wx))
     case first=>
      go_region_held3 (fun w'=>w'.cell? ⟨w.heap.size,0,none⟩=some (.slice A ns.length c)/\w'.cell? ⟨w.heap.size,1,none⟩=some (.int .i64 r))
       (first|go_keep|exact ay.out _ (by(first|assumption|exact Below.refl _ _|exact(Below.refl _ _).drew|exact Below.drew (by assumption)))) (first
       | (go_at_call 39;(with_reducible refine(au.out _ _ ?_ ?_ ?_).mono ?_);exact((Below.refl _ _).alloc (Nat.le_refl _) _).drew;exact Nat.le_refl _;exact Blk.new _ _ _;rintro e1 wc1 ⟨rfl,aD⟩))
      all_goals
       go_wp2;go_meet
      exact⟨by rw[IntWalk.i64_in _ (by omega)],rfl,hid aD⟩
     case rest=>
      obtain⟨rfl,rfl,HX⟩:=hcut;go_wp2;go_ret2;exact⟨by rw[aw.out,ai.out]<;>rfl,L.out.trans (HX.out.mono L.out.size)⟩
end Go.Proofs.YtpgmfihonmoliaaGreatDoor

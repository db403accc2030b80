import Derived.Test.YtoigpackhninoaaGreatDoorGrRReach
import Derived.Test.YtoigpackhninoaaGreatDoorZ13
namespace Go.Proofs.YtoigpackhninoaaGreatDoor
open Gr
open _root_.Go.Proofs.Tryz
open _root_.Go.Lib (hid)
set_option maxRecDepth 100000
set_option maxHeartbeats 16000000
open Go.RowKit
namespace Gr
theorem znh {α:Type} (p q r:α->Bool) (l:List α) (h:∀x∈l,(p x=true->r x=true)/\(q x=true->r x=true)/\¬(p x=true/\q x=true)):l.countP p+l.countP q<=l.countP r:=by
 induction l with
 |nil=>simp
 |cons x l ih=>
  have h1:=ih (fun y d=>h y (.tail _ d));obtain⟨a,b,c⟩:=h x (.head _);rw[List.countP_cons,List.countP_cons,List.countP_cons];cases hp:p x<;>cases hq:q x<;>cases hr:r x<;>simp[hp,hq,hr]at a b c ⊢<;>omega
theorem LongR.le_n {ns:List Nd} {F:Nat->Nat} (hr:Refs ns) (hF:LongR (succ ns) ns.length F):∀(k v:Nat),F v<=k->v<ns.length->F v<=ns.length:=by
 classical
 have f:∀(k v:Nat),F v<=k->v<ns.length->F v<=(List.range ns.length).countP (fun i=>decide (Reach (succ ns) v i)):=by
  intro k
  induction k with
  |zero=>intro v h _;omega
  |succ k ih=>
   intro v h d;rcases hF.att v d with h1|⟨u,hu,h2,h3,x,hx,hn,h4⟩
   ·rw[h1];unfold wt;apply List.countP_mono_left;intro i _ c;have:=of_decide_eq_true c;exact decide_eq_true this.1
   ·have e:=hr.succ u x hx;have hp:=zqr (succ ns) ns.length v d;have g:=ih x (by omega) e;rw[h4];refine Nat.le_trans (Nat.add_le_add_left g _) ?_;unfold wt;refine znh _ _ _ _ (fun i _=>⟨fun c=>?_,fun c=>?_,?_⟩)
    ·exact decide_eq_true (of_decide_eq_true c).1
    ·exact decide_eq_true (h2.trans ((Reach.one hx).trans (of_decide_eq_true c)))
    ·rintro⟨a,b⟩;exact hn ((of_decide_eq_true b).trans (of_decide_eq_true a).2)
 intro k v h d;exact Nat.le_trans (f k v h d) (Nat.le_trans List.countP_le_length (by simp))
end Gr
structure RchAt (w:World) (od:Nat) (ra:Addr) (ns:List Gr.Nd):Prop where
 lt:ra.block<od
 row:∀v,v<ns.length->∃ob,ob<od/\w.cell? (ra.add v)=some (.slice (some ⟨ob,0,none⟩) ns.length ns.length)/\Blk w ob 4 (bcells (marks ns v))
theorem RchAt.below {w w':World} {od:Nat} {ra:Addr} {ns:List Gr.Nd} (h:RchAt w od ra ns) (hb:Below od w w'):RchAt w' od ra ns:=
 ⟨h.lt,fun v c=>by
  obtain⟨e,a,b,d⟩:=h.row v c;exact⟨e,a,(hb.cell (by rw[zaz];exact h.lt)).trans b,d.below hb a⟩⟩
def DOk (F:Nat->Nat) (n:Nat) (D:List Nat):Prop:=D.length=n/\∀v,v<n->D.getD v 0=0\/D.getD v 0=F v
theorem DOk.set {F:Nat->Nat} {n:Nat} {D:List Nat} (h:DOk F n D) (v:Nat):DOk F n (D.set v (F v)):=by
 refine⟨by rw[List.length_set];exact h.1,fun u a=>?_⟩;by_cases he:v=u
 ·subst he;right;exact za1 _ _ _ _ (by rw[h.1];exact a)
 ·rw[Gr.getD_set_ne _ _ _ _ _ he];exact h.2 u a
theorem DOk.zero (F:Nat->Nat) (n:Nat):DOk F n (List.replicate n 0):=⟨by simp,fun v a=>.inl (by simp[List.getD_eq_getElem?_getD,a])⟩
structure LM (w:World) (od:Nat) (A:Option Addr) (vs:List NV) (ns:List Gr.Nd) (ra:Addr):Prop where
 at_:GAt w od A vs ns
 rch:RchAt w od ra ns
theorem LM.kb {w w':World} {od:Nat} {A:Option Addr} {vs:List NV} {ns:List Gr.Nd} {ra:Addr} (h:LM w od A vs ns ra) (hs:od<=w.heap.size) (hk:KB od w w'):LM w' od A vs ns ra:=
 ⟨h.at_.below (hk.below (Nat.le_refl _) hs),h.rch.below (hk.below (Nat.le_refl _) hs)⟩
theorem zup {w w':World} {base od:Nat} {v:Value} {l:List Nat} (h:OwnRow intL w base 3 v l) (hk:KB od w w') (hb:od<base):OwnRow intL w' base 3 v l:=by
 obtain⟨c,b⟩:=h;refine⟨c,?_⟩;rcases b with h2|⟨g,cap,cur,he,hg,hB,hr⟩
 ·exact .inl h2
 ·have a:Blk w g 3 cur:=hB;exact .inr ⟨g,cap,cur,he,hg,hk.blk a (by omega),hr⟩
theorem zi0 (A:Option Addr) (c cR od:Nat) (root:Int) (vs:List NV) (ns:List Gr.Nd) (ra:Addr) (F:Nat->Nat) (hr:Refs ns) (hF:LongR (Gr.succ ns) ns.length F) (hnl:ns.length<=1000) (hks:∀n∈ns,n.keys.length<=1000/\n.items.length<=1000):
 ∀(f v:Nat) (D:List Nat) (w:World),F v<f->v<ns.length->LM w od A vs ns ra->DOk F ns.length D->Blk w od 3 (icells D)->
 Calls prog 54 #[.agg #[.slice A ns.length c,.int .i64 root],.slice (some ra) ns.length cR,.slice (some ⟨od,0,none⟩) ns.length ns.length,.int .i64 v] w fun e w'=>e=.returned (.int .i64 (F v))/\KB od w w'/\∃D',DOk F ns.length D'/\Blk w' od 3 (icells D'):=by
 intro f
 induction f with
 |zero=>intro v D w h;omega
 |succ f ih=>
  intro v D w bh J hM hD hB;have bl:Hid (∀(x:Nat) (D:List Nat) (w:World),F x<F v->x<ns.length->LM w od A vs ns ra->DOk F ns.length D->Blk w od 3 (icells D)->
   Calls prog 54 #[.agg #[.slice A ns.length c,.int .i64 root],.slice (some ra) ns.length cR,.slice (some ⟨od,0,none⟩) ns.length ns.length,.int .i64 x] w fun e w'=>e=.returned (.int .i64 (F x))/\KB od w w'/\∃D',DOk F ns.length D'/\Blk w' od 3 (icells D')):=hid (fun x D w h=>ih x D w (by omega))
  have HM:=hid hM;have HR:=hid hr;have HF:=hid hF;have HD:=hid hD;have hvI:(v:Int)<(ns.length:Int):=by omega
  have bf:=hF.le_n hr (F v) v (Nat.le_refl _) J;have bs:=hF.pos J;obtain⟨Fv,K⟩:=ex (F v)
  have am:=hid K;rw[K]at bf bs;obtain⟨Z,o⟩:=ex (w.alloc (.cells #[.slice A ns.length c,.int .i64 root] 24))
  have r:=hB.lt;obtain⟨G,S⟩:=ex w.heap.size
  have s:Hid (od<G/\G=w.heap.size):=hid ⟨by omega,S.symm⟩;have b1:Blk Z G 24 #[.slice A ns.length c,.int .i64 root]:=by rw[<-o,<-S];exact Blk.new _ _ _
  have d1:Blk Z od 3 (icells D):=by rw[<-o];exact hB.alloc _
  have k1:KB od w Z:=by rw[<-o];exact(KB.refl _ _).alloc _
  have a1:Z.heap.size=G+1:=by rw[<-o,<-S];simp
  have ak:=hid b1;have aM:=hid d1;have aJ:=hid k1;have bo:=hid a1;obtain⟨dv,ax⟩:=ex (D.getD v 0)
  have aN:Hid (dv=0\/dv=Fv):=hid (by rw[<-ax,<-K];exact hD.2 v J);have z0:Z.cell? ⟨od,v,none⟩=some (.int .i64 (dv:Int)):=by rw[d1.cell,zad (by rw[hD.1];exact J),ax]
  have bb:Hid (Value.int .i64 (F v:Int)=.int .i64 (Fv:Int)):=hid (by rw[K]);have hvb:v<=1000:=by omega
  clear hM hr hF hD hB ih bh r b1 d1 k1 a1 K ax;go_enter func54,ntmps54;go_upto_region 1 with fail;(try rw[o]);(try rw[S]);clear o S;by_cases hd0:0<dv
  ·have aA:(0:Int)<(dv:Int):=by omega
   have bj:Hid (dv=Fv):=hid (by rcases aN.out with h|h<;>omega);clear hd0;go_wp2;go_ret;exact⟨by rw[bb.out,bj.out]<;>rfl,aJ.out,D,HD.out,aM.out⟩
  ·have aA:¬(0:Int)<(dv:Int):=by omega
   clear hd0 aN;go_upto_region 5 with fail;clear z0;go_loopw [9,10,11] (fun s9 s10 s11 wr=>∃(i b:Nat) (D:List Nat),i<=ns.length/\b<=ns.length/\s11=.int .i64 i/\s10=.int .i64 b/\s9=.int .i64 (lwt ns v i:Nat)/\Hid (KB od Z wr/\DOk F ns.length D/\Blk wr od 3 (icells D)/\LBest ns F v i [] b)) (fun _ _ s11 _=>ns.length-(intOf s11).toNat)
   case atStart=>exact⟨0,0,D,by omega,by omega,rfl,rfl,rfl,hid ⟨KB.refl _ _,HD.out,aM.out,LBest.start⟩⟩
   case round=>
    obtain⟨i,b,D,hi,hb,rfl,rfl,rfl,l⟩:=hrel;obtain⟨g,bw⟩:∃g,g=wr:=⟨_,rfl⟩
    subst bw;have t:Hid (Blk g G 24 #[.slice A ns.length c,.int .i64 root]/\G+1<=g.heap.size/\KB od w g):=hid ⟨l.out.1.blk ak.out (by have:=s.out;omega),by have:=l.out.1.size;have:=bo.out;omega,aJ.out.trans l.out.1⟩;have af:Hid (LM g od A vs ns ra):=hid (HM.out.kb (by have:=s.out;omega) t.out.2.2);have g0:g.cell? ⟨G,0,none⟩=some (.slice A ns.length c):=t.out.1.cell 0;have bz:=zx3 ns v i;have ab:=hid (ztu ns v i);obtain⟨wg,ae⟩:=ex (lwt ns v i)
    rw[ae]at bz ab;have bx:=hid ae;(try rw[ae]);clear ae;by_cases r:i<ns.length
    ·have aU:(i:Int)<(ns.length:Int):=by omega
     obtain⟨ov,bt,rv,bv⟩:=af.out.rch.row v J;obtain⟨oi,br,ri,bi⟩:=af.out.rch.row i r;obtain⟨p,hp⟩:=ex ((marks ns v).getD i false)
     obtain⟨q,V⟩:=ex ((marks ns i).getD v false)
     have y1:g.cell? ⟨ov,i,none⟩=some (.bool p):=by rw[bv.cell,zah (by rw[zbe HR.out J];exact r),hp]
     have y2:g.cell? ⟨oi,v,none⟩=some (.bool q):=by rw[bi.cell,zah (by rw[zbe HR.out r];exact J),V]
     have C:Hid (Gr.mt ns v i=(p && q)):=hid (by unfold Gr.mt mkd;rw[hp,V]);have hib:i<=1000:=by omega
     clear bv bi bt br hp V;cases p with
     |false=>
      have P:Hid (LBest ns F v (i+1) [] b/\lwt ns v (i+1)=wg):=hid ⟨l.out.2.2.2.skip (by rw[C.out];rfl),by rw[ab.out,if_neg (by rw[C.out];simp)];rfl⟩;go_wp2;go_roundw
      case rel=>exact⟨i+1,b,D,by omega,hb,by go_num,rfl,by rw[P.out.2],hid ⟨l.out.1,l.out.2.1,l.out.2.2.1,P.out.1⟩⟩
      case measure=>simp[intOf];omega
     |true=>
      cases q with
      |false=>
       have P:Hid (LBest ns F v (i+1) [] b/\lwt ns v (i+1)=wg):=hid ⟨l.out.2.2.2.skip (by rw[C.out];rfl),by rw[ab.out,if_neg (by rw[C.out];simp)];rfl⟩;go_wp2;go_roundw
       case rel=>exact⟨i+1,b,D,by omega,hb,by go_num,rfl,by rw[P.out.2],hid ⟨l.out.1,l.out.2.1,l.out.2.2.1,P.out.1⟩⟩
       case measure=>simp[intOf];omega
      |true=>
       have a5:Hid (lwt ns v (i+1)=wg+1):=hid (by rw[ab.out,if_pos (by rw[C.out];rfl)]);have aP:Hid (Gr.mt ns v i=true):=hid C.out;obtain⟨ad,k,i2,rfl,M⟩:=af.out.at_.node r;obtain⟨ka,kn,kc⟩:=k;obtain⟨X,a9,ic⟩:=i2;have al:ns[i]∈ns:=List.getElem_mem r;obtain⟨bp,az⟩:=hks _ al;have R:Hid (Gr.succ ns i=ns[i].keys++ns[i].items/\∀x∈ns[i].keys++ns[i].items,x<ns.length):=hid ⟨zc7 r,HR.out _ al⟩;obtain⟨n,hn⟩:=ex (ns[i])
       rw[hn]at M R bp az;obtain rfl:kn=n.keys.length:=M.kn;obtain rfl:a9=n.items.length:=M.inn;have x0:=M.c0;have x1:=M.c1;have x2:=M.c2;have x3:=M.c3;have x4:=M.c4;have aZ:Hid (RowAt intL g od ka n.keys/\RowAt intL g od X n.items):=hid ⟨M.keys,M.items⟩;clear M hn al;go_upto_region 10 with fail;obtain⟨a,ai⟩:=ex (g.alloc (.cells #[.int .i64 n.kind,.string ⟨n.text.toArray⟩,.bool n.ord,.slice ka n.keys.length kc,.slice X n.items.length ic] 35))
       obtain⟨Y,ap⟩:=ex g.heap.size
       have d:Hid (Blk a Y 35 #[.int .i64 n.kind,.string ⟨n.text.toArray⟩,.bool n.ord,.slice ka n.keys.length kc,.slice X n.items.length ic]/\Below g.heap.size g a/\Y<a.heap.size/\g.heap.size<=Y):=hid (by rw[<-ai,<-ap];exact⟨Blk.new _ _ _,(Below.refl _ _).alloc (Nat.le_refl _) _,by simp,Nat.le_refl _⟩);(try rw[ai]);(try rw[ap]);have s3:a.cell? ⟨Y,3,none⟩=some (.slice ka n.keys.length kc):=d.out.1.cell 3;have s4:a.cell? ⟨Y,4,none⟩=some (.slice X n.items.length ic):=d.out.1.cell 4;clear ai ap x0 x1 x2 x3 x4 g0 y1 y2 rv ri;go_cut [13] (fun s13 wx=>∃A2 c2,s13=.slice A2 (n.keys.length+n.items.length) c2/\Hid (OwnRow intL wx a.heap.size 3 (.slice A2 (n.keys.length+n.items.length) c2) (n.keys++n.items)/\Below a.heap.size a wx))
       case first=>
        have s3a:(a.alloc (.cells #[] 3)).cell? ⟨Y,3,none⟩=some (.slice ka n.keys.length kc):=(d.out.1.alloc _).cell 3;have s4a:(a.alloc (.cells #[] 3)).cell? ⟨Y,4,none⟩=some (.slice X n.items.length ic):=(d.out.1.alloc _).cell 4;have I:OwnRow intL (a.alloc (.cells #[] 3)).drew a.heap.size 3 (.slice (some ⟨a.heap.size,0,none⟩) ([]:List Nat).length 0) []:=zfh a;have B:od<=g.heap.size:=by have:=s.out;have:=t.out.2.1;omega
        have aq:Below od g (a.alloc (.cells #[] 3)).drew:=below_drewN ((d.out.2.1.mono B).alloc (Nat.le_trans B d.out.2.1.size) _) 1;have aY:RowAt intL (a.alloc (.cells #[] 3)).drew od ka n.keys:=aZ.out.1.below aq;have ah:RowAt intL (a.alloc (.cells #[] 3)).drew od X n.items:=aZ.out.2.below aq;have U:Hid (a.heap.size<=(a.alloc (.cells #[] 3)).drew.heap.size/\od<=a.heap.size/\Y<a.heap.size):=hid ⟨by simp,Nat.le_trans B d.out.2.1.size,d.out.1.lt⟩;have aK:Hid (Blk (a.alloc (.cells #[] 3)).drew Y 35 #[.int .i64 n.kind,.string ⟨n.text.toArray⟩,.bool n.ord,.slice ka n.keys.length kc,.slice X n.items.length ic]/\RowAt intL (a.alloc (.cells #[] 3)).drew od X n.items):=hid ⟨d.out.1.alloc _,ah⟩;have bA:([]:List Nat).length+n.keys.length<=1073741824:=by simp;omega
        have a7:n.keys.length+n.items.length<=1073741824:=by omega
        have av:=U.out.1;clear aq ah B;go_region_law (first
         | (refine zai _ rfl (.tmp 56) (.tmp 58) 33 3 8 rfl intT a.heap.size (.slice (some ⟨a.heap.size,0,none⟩) ([]:List Nat).length 0) [] rfl I _ _ kc n.keys rfl aY bA av ?_;intro v1 Z m aX aE;rw[List.nil_append]at m;obtain⟨A8,c8,bd,_⟩:=m.form;subst bd;have T:=I.grown_below aX av;have s41:Z.cell? ⟨Y,4,none⟩=some (.slice X n.items.length ic):=(aK.out.1.below T U.out.2.2).cell 4;have aG:RowAt intL Z od X n.items:=aK.out.2.below (T.mono U.out.2.1);have o:a.heap.size<=Z.heap.size:=Nat.le_trans av T.size;have ak:=hid T;clear aX aE T)
         | (refine zai _ rfl (.tmp 59) (.tmp 61) 33 3 8 rfl intT a.heap.size (.slice A8 n.keys.length c8) n.keys rfl m _ _ ic n.items rfl aG a7 o ?_;intro v2 w2 u aI aL;obtain⟨A9,c9,aR,_⟩:=u.form;rw[List.length_append]at aR;subst aR;have bq:Hid (OwnRow intL w2 a.heap.size 3 (.slice A9 (n.keys.length+n.items.length) c9) (n.keys++n.items)/\Below a.heap.size a w2):=hid ⟨u,(below_drewN ((Below.refl _ _).alloc (Nat.le_refl _) _) 1).trans (ak.out.trans (m.grown_below aI o))⟩;clear u aI aL))
        all_goals
         go_wp2;go_meet;exact⟨A9,c9,rfl,bq⟩
       case rest=>
        obtain⟨A2,c2,rfl,HN⟩:=hcut;have bc:Hid (KB od g wc):=hid ((KB.of_below d.out.2.1).trans (KB.of_below HN.out.2));have a3:Hid (od<a.heap.size/\a.heap.size<=wc.heap.size):=hid ⟨by have:=d.out;have:=s.out;have:=t.out;omega,HN.out.2.size⟩;have bm:Hid (Blk wc od 3 (icells D)):=hid (by
         have h1:=l.out.2.2.1.below d.out.2.1 l.out.2.2.1.lt;exact h1.below HN.out.2 h1.lt)
        have a0:Hid (OwnRow intL wc a.heap.size 3 (.slice A2 (n.keys.length+n.items.length) c2) (n.keys++n.items)):=hid HN.out.1;obtain⟨N,aa⟩:=ex (n.keys++n.items)
        obtain⟨nl,L⟩:=ex (n.keys.length+n.items.length)
        have aV:N.length=nl:=by rw[<-aa,<-L];simp
        have ac:=hid aV;have hnb:nl<=2000:=by omega
        rw[L,aa]at a0;rw[aa]at R;(try rw[L]);clear HN aa s3 s4 aV;go_upto_region 12 with fail;go_loopw [10,14] (fun s10 s14 wr=>∃(j b:Nat) (D:List Nat),j<=nl/\b<=ns.length/\s14=.int .i64 j/\s10=.int .i64 b/\Hid (KB od wc wr/\DOk F ns.length D/\Blk wr od 3 (icells D)/\LBest ns F v i (N.take j) b)) (fun _ s14 _=>nl-(intOf s14).toNat)
        case atStart=>exact⟨0,b,D,by omega,hb,rfl,rfl,hid ⟨KB.refl _ _,l.out.2.1,bm.out,by simpa using l.out.2.2.2⟩⟩
        case round=>
         obtain⟨j,b,D,hj,hb,rfl,rfl,z⟩:=hrel;obtain⟨E,bn⟩:∃E,E=wr:=⟨_,rfl⟩
         subst bn;have au:Hid (KB od g E):=hid (bc.out.trans z.out.1);by_cases hlj:j<nl
         ·have a2:(j:Int)<(nl:Int):=by omega
          have O:j<N.length:=by rw[ac.out];exact hlj
          obtain⟨y,hy⟩:=ex (N[j])
          have ao:Hid (OwnRow intL E a.heap.size 3 (.slice A2 nl c2) N):=hid (zup a0.out z.out.1 a3.out.1);obtain⟨aO,rfl,_,y0⟩:=zae (zd1 ao.out).1 O;rw[hy]at y0;have ag:y<ns.length:=R.out.2 y (by rw[<-hy];exact List.getElem_mem O);have hyI:(y:Int)<(ns.length:Int):=by omega
          have bg:Hid (y∈Gr.succ ns i):=hid (by rw[R.out.1,<-hy];exact List.getElem_mem O);have aW:Hid (N.take (j+1)=N.take j++[y]):=hid (by rw[List.take_succ_eq_append_getElem O,hy]);have aT:Hid (LM E od (some ad) vs ns ra):=hid (af.out.kb (by have:=s.out;have:=t.out;omega) au.out);obtain⟨oy,a6,ry,bY⟩:=aT.out.rch.row y ag;obtain⟨q,V⟩:=ex ((marks ns y).getD v false)
          have y2:E.cell? ⟨oy,v,none⟩=some (.bool q):=by rw[bY.cell,zah (by rw[zbe HR.out ag];exact J),V]
          have aw:Hid (Blk E G 24 #[.slice (some ad) ns.length c,.int .i64 root]/\G<E.heap.size):=hid (by have h:=au.out.blk t.out.1 (by have:=s.out;omega);exact⟨h,h.lt⟩);have hjb:j<=2000:=by omega
          clear bY a6 O hy;cases q with
          |true=>
           have Q:Hid (LBest ns F v i (N.take (j+1)) b):=hid (by rw[aW.out];exact z.out.2.2.2.old V);clear V;go_wp2;go_roundw
           case rel=>exact⟨j+1,b,D,by omega,hb,by go_num,rfl,hid ⟨z.out.1,z.out.2.1,z.out.2.2.1,Q.out⟩⟩
           case measure=>simp[intOf];omega
          |false=>
           have bB:Hid (F y<F v):=hid (HF.out.lt HR.out J r aP.out bg.out V);have ar:=hid (HF.out.le_n HR.out (F y) y (Nat.le_refl _) ag);have Q:Hid (LBest ns F v i (N.take (j+1)) (max b (F y))):=hid (by rw[aW.out];exact z.out.2.2.2.new V);have a4:Hid (∀W,Below E.heap.size E W->Calls prog 54 #[.agg #[.slice (some ad) ns.length c,.int .i64 root],.slice (some ra) ns.length cR,.slice (some ⟨od,0,none⟩) ns.length ns.length,.int .i64 y] W fun e w'=>e=.returned (.int .i64 (F y))/\KB od E w'/\∃D',DOk F ns.length D'/\Blk w' od 3 (icells D')):=hid (fun W hW=>
            (bl.out y D W bB.out ag (aT.out.kb (by have:=s.out;have:=aw.out.2;omega) (KB.of_below hW)) z.out.2.1 (z.out.2.2.1.below hW z.out.2.2.1.lt)).mono (fun _ _ ⟨e1,e2,e3⟩=>⟨e1,(KB.of_below hW).trans e2,e3⟩))
           obtain⟨fy,aF⟩:=ex (F y)
           rw[aF]at a4 Q ar;have hfb:fy<=1000:=by have:=ar.out;omega
           have hbb:b<=1000:=by omega
           have ay:Hid (max b fy<=ns.length):=hid (by have:=ar.out;omega);obtain⟨mx,H⟩:=ex (max b fy)
           rw[H]at Q ay;obtain⟨q0,q1⟩:=cells2 aw.out.1;have bk:Hid (∀W,KB od E W->W.cell? ⟨G,0,none⟩=some (.slice (some ad) ns.length c)/\W.cell? ⟨G,1,none⟩=some (.int .i64 root)/\W.cell? (aO.add j)=some (.int .i64 y)):=hid (fun W hW=>by
            have h:=hW.blk aw.out.1 (by have:=s.out;omega);refine⟨h.cell 0,h.cell 1,?_⟩;obtain⟨ad4,e4,_,y4⟩:=zae (zd1 (zup ao.out hW a3.out.1)).1 (show j<N.length by rw[ac.out];exact hlj);injection e4 with e4
            subst e4;rw[y4];obtain⟨ad5,e5,_,y5⟩:=zae (zd1 ao.out).1 (show j<N.length by rw[ac.out];exact hlj);injection e5 with e5
            subst e5;rw[y0]at y5;exact y5.symm)
           clear V aF;go_upto_region 15 with fail;clear y2 ry;have aj:((b:Int)<(fy:Int)/\mx=fy)\/(¬(b:Int)<(fy:Int)/\mx=b):=by omega
           clear H;rcases aj with⟨aH,H⟩|⟨aH,H⟩
           all_goals
            have aQ:=hid H;clear H;go_region_held3 (fun w'=>w'.cell? ⟨G,0,none⟩=some (.slice (some ad) ns.length c)/\w'.cell? ⟨G,1,none⟩=some (.int .i64 root)/\w'.cell? (aO.add j)=some (.int .i64 y))
             (first|go_keep|exact bk.out _ (by(first|assumption|exact KB.refl _ _|exact(KB.refl _ _).drewN 1|exact KB.drewN (by assumption) 1))) (first
             | (go_at_call 54;(with_reducible refine(a4.out _ ?_).mono ?_);(first|assumption|exact Below.refl _ _|exact(Below.refl _ _).drew|exact Below.drew (by assumption));rintro e1 aB ⟨rfl,aC,D1,aD,aS⟩))
            all_goals
             have H3:Hid (KB od E aB/\DOk F ns.length D1/\Blk aB od 3 (icells D1)):=hid ⟨aC,aD,aS⟩;clear aC aD aS q0 q1 y0;go_wp2;go_roundw
             case rel=>exact⟨j+1,mx,D1,by omega,ay.out,by go_num,by(rw[aQ.out];first|rfl| (congr 1;omega)),hid ⟨z.out.1.trans H3.out.1,H3.out.2.1,H3.out.2.2,Q.out⟩⟩
             case measure=>simp[intOf];omega
         ·have a2:¬(j:Int)<(nl:Int):=by omega
          have HE:Hid (LBest ns F v (i+1) [] b):=hid (z.out.2.2.2.next aP.out (by rw[R.out.1,List.take_of_length_le (by rw[ac.out];omega)]));go_wp2;go_roundw
          case rel=>exact⟨i+1,b,D,by omega,hb,by go_num,rfl,by rw[a5.out];go_num,hid ⟨l.out.1.trans au.out,z.out.2.1,z.out.2.2.1,HE.out⟩⟩
          case measure=>simp[intOf];omega
    ·have aU:¬(i:Int)<(ns.length:Int):=by omega
     have an:Hid (wg+b=Fv):=hid (by
      obtain rfl:i=ns.length:=by omega
      have:=l.out.2.2.2.last HR.out J HF.out;rw[bx.out,am.out]at this;exact this)
     have hsb:wg+b<=1000:=by rw[an.out];omega
     have zf:∀k,g.frozen? ⟨od,k,none⟩=false:=l.out.2.2.1.frozen;have z0:g.cell? ⟨od,v,none⟩=some (.int .i64 ((D.getD v 0:Nat):Int)):=by rw[l.out.2.2.1.cell,zad (by rw[l.out.2.1.1];exact J)]
     have ba:Hid (DOk F ns.length (D.set v (F v))):=hid (l.out.2.1.set v);have bu:Hid (KB od w g):=hid t.out.2.2;have be:Hid (Blk (g.setCell ⟨od,v,none⟩ (.int .i64 ((wg:Int)+(b:Int)))) od 3 (icells (D.set v (F v)))):=hid (by
      have h1:=l.out.2.2.1.set_ v (.int .i64 ((wg:Int)+(b:Int)));have e:(wg:Int)+(b:Int)=((F v:Nat):Int):=by rw[am.out,<-an.out];omega
      rw[e,zau]at h1;rw[e];exact h1)
     have a8:Hid (Value.int .i64 ((wg:Int)+(b:Int))=.int .i64 (F v:Int)):=hid (by rw[am.out,<-an.out];congr 1);go_wp2;go_ret;exact⟨by rw[<-a8.out]<;>rfl,bu.out.set _ _,D.set v (F v),ba.out,be.out⟩
end Go.Proofs.YtoigpackhninoaaGreatDoor

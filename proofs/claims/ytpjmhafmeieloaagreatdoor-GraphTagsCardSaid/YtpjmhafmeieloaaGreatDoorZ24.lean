import Derived.Test.YtpjmhafmeieloaaGreatDoorZ23
import Derived.Test.YtpjmhafmeieloaaGreatDoorZ13
namespace Go.Proofs.YtpjmhafmeieloaaGreatDoor
open Gr
open _root_.Go.Proofs.Tryz
open _root_.Go.Lib (hid)
set_option maxRecDepth 100000
set_option maxHeartbeats 16000000
open Go.RowKit
namespace Gr
theorem zns {α:Type} (p q r:α->Bool) (l:List α) (h:∀x∈l,(p x=true->r x=true)/\(q x=true->r x=true)/\¬(p x=true/\q x=true)):l.countP p+l.countP q<=l.countP r:=by
 induction l with
 |nil=>simp
 |cons x l ih=>
  have h1:=ih (fun y d=>h y (.tail _ d));obtain⟨a,b,c⟩:=h x (.head _);rw[List.countP_cons,List.countP_cons,List.countP_cons];cases hp:p x<;>cases hq:q x<;>cases hr:r x<;>simp[hp,hq,hr]at a b c ⊢<;>omega
theorem LongR.le_n {ns:List Nd} {F:Nat->Nat} (hr:Refs ns) (hF:LongR (succ ns) ns.length F):∀(k v:Nat),F v<=k->v<ns.length->F v<=ns.length:=by
 classical
 have e:∀(k v:Nat),F v<=k->v<ns.length->F v<=(List.range ns.length).countP (fun i=>decide (Reach (succ ns) v i)):=by
  intro k
  induction k with
  |zero=>intro v h _;omega
  |succ k ih=>
   intro v h d;rcases hF.att v d with h1|⟨u,hu,h2,h3,x,hx,hn,h4⟩
   .rw[h1];unfold wt;apply List.countP_mono_left;intro i _ c;have:=of_decide_eq_true c;exact decide_eq_true this.1
   .have f:=hr.succ u x hx;have hp:=zkz (succ ns) ns.length v d;have g:=ih x (by omega) f;rw[h4];refine Nat.le_trans (Nat.add_le_add_left g _) ?_;unfold wt;refine zns _ _ _ _ (fun i _=>⟨fun c=>?_,fun c=>?_,?_⟩)
    .exact decide_eq_true (of_decide_eq_true c).1
    .exact decide_eq_true (h2.trans ((Reach.one hx).trans (of_decide_eq_true c)))
    .rintro⟨a,b⟩;exact hn ((of_decide_eq_true b).trans (of_decide_eq_true a).2)
 intro k v h d;exact Nat.le_trans (e k v h d) (Nat.le_trans List.countP_le_length (by simp))
end Gr
structure RchAt (w:World) (od:Nat) (ra:Addr) (ns:List Gr.Nd):Prop where
 lt:ra.block<od
 row:∀v,v<ns.length->∃ob,ob<od/\w.cell? (ra.add v)=some (.slice (some ⟨ob,0,none⟩) ns.length ns.length)/\Blk w ob 4 (bcells (marks ns v))
theorem RchAt.below {w w':World} {od:Nat} {ra:Addr} {ns:List Gr.Nd} (h:RchAt w od ra ns) (hb:Below od w w'):RchAt w' od ra ns:=
 ⟨h.lt,fun v e=>by
  obtain⟨c,a,b,d⟩:=h.row v e;exact⟨c,a,(hb.cell (by rw[zbd];exact h.lt)).trans b,d.below hb a⟩⟩
def DOk (F:Nat->Nat) (n:Nat) (D:List Nat):Prop:=D.length=n/\∀v,v<n->D.getD v 0=0\/D.getD v 0=F v
theorem DOk.set {F:Nat->Nat} {n:Nat} {D:List Nat} (h:DOk F n D) (v:Nat):DOk F n (D.set v (F v)):=by
 refine⟨by rw[List.length_set];exact h.1,fun u a=>?_⟩;by_cases he:v=u
 .subst he;right;exact za1 _ _ _ _ (by rw[h.1];exact a)
 .rw[Gr.getD_set_ne _ _ _ _ _ he];exact h.2 u a
theorem DOk.zero (F:Nat->Nat) (n:Nat):DOk F n (List.replicate n 0):=⟨by simp,fun v a=>.inl (by simp[List.getD_eq_getElem?_getD,a])⟩
structure LM (w:World) (od:Nat) (A:Option Addr) (vs:List NV) (ns:List Gr.Nd) (ra:Addr):Prop where
 at_:GAt w od A vs ns
 rch:RchAt w od ra ns
theorem LM.kb {w w':World} {od:Nat} {A:Option Addr} {vs:List NV} {ns:List Gr.Nd} {ra:Addr} (h:LM w od A vs ns ra) (hs:od<=w.heap.size) (hk:KB od w w'):LM w' od A vs ns ra:=
 ⟨h.at_.below (hk.below (Nat.le_refl _) hs),h.rch.below (hk.below (Nat.le_refl _) hs)⟩
theorem zu6 {w w':World} {base od:Nat} {v:Value} {l:List Nat} (h:OwnRow intL w base 3 v l) (hk:KB od w w') (hb:od<base):OwnRow intL w' base 3 v l:=by
 obtain⟨b,c⟩:=h;refine⟨b,?_⟩;rcases c with h2|⟨g,cap,cur,he,hg,hB,hr⟩
 .exact .inl h2
 .have a:Blk w g 3 cur:=hB;exact .inr ⟨g,cap,cur,he,hg,hk.blk a (by omega),hr⟩
theorem zjc (A:Option Addr) (c cR od:Nat) (root:Int) (vs:List NV) (ns:List Gr.Nd) (ra:Addr) (F:Nat->Nat) (hr:Refs ns) (hF:LongR (Gr.succ ns) ns.length F) (hnl:ns.length<=1000) (hks:∀n∈ns,n.keys.length<=1000/\n.items.length<=1000):
 ∀(f v:Nat) (D:List Nat) (w:World),F v<f->v<ns.length->LM w od A vs ns ra->DOk F ns.length D->Blk w od 3 (icells D)->
 Calls prog 49 #[.agg #[.slice A ns.length c,.int .i64 root],.slice (some ra) ns.length cR,.slice (some ⟨od,0,none⟩) ns.length ns.length,.int .i64 v] w fun e w'=>e=.returned (.int .i64 (F v))/\KB od w w'/\∃D',DOk F ns.length D'/\Blk w' od 3 (icells D'):=by
 intro f
 induction f with
 |zero=>intro v D w h;omega
 |succ f ih=>
  intro v D w bh U hM hD hB;have bb:Hid (∀(x:Nat) (D:List Nat) (w:World),F x<F v->x<ns.length->LM w od A vs ns ra->DOk F ns.length D->Blk w od 3 (icells D)->
   Calls prog 49 #[.agg #[.slice A ns.length c,.int .i64 root],.slice (some ra) ns.length cR,.slice (some ⟨od,0,none⟩) ns.length ns.length,.int .i64 x] w fun e w'=>e=.returned (.int .i64 (F x))/\KB od w w'/\∃D',DOk F ns.length D'/\Blk w' od 3 (icells D')):=hid (fun x D w h=>ih x D w (by omega))
  have HM:=hid hM;have HR:=hid hr;have HF:=hid hF;have HD:=hid hD;have hvI:(v:Int)<(ns.length:Int):=by omega
  have bu:=hF.le_n hr (F v) v (Nat.le_refl _) U;have a6:=hF.pos U;obtain⟨Fv,K⟩:=ex (F v)
  have ao:=hid K;rw[K]at bu a6;obtain⟨X,r⟩:=ex (w.alloc (.cells #[.slice A ns.length c,.int .i64 root] 24))
  have o:=hB.lt;obtain⟨H,M⟩:=ex w.heap.size
  have s:Hid (od<H/\H=w.heap.size):=hid ⟨by omega,M.symm⟩;have b1:Blk X H 24 #[.slice A ns.length c,.int .i64 root]:=by rw[<-r,<-M];exact Blk.new _ _ _
  have d1:Blk X od 3 (icells D):=by rw[<-r];exact hB.alloc _
  have k1:KB od w X:=by rw[<-r];exact(KB.refl _ _).alloc _
  have a2:X.heap.size=H+1:=by rw[<-r,<-M];simp
  have aq:=hid b1;have aV:=hid d1;have aH:=hid k1;have bA:=hid a2;obtain⟨dv,am⟩:=ex (D.getD v 0)
  have aO:Hid (dv=0\/dv=Fv):=hid (by rw[<-am,<-K];exact hD.2 v U);have z0:X.cell? ⟨od,v,none⟩=some (.int .i64 (dv:Int)):=by rw[d1.cell,zad (by rw[hD.1];exact U),am]
  have ba:Hid (Value.int .i64 (F v:Int)=.int .i64 (Fv:Int)):=hid (by rw[K]);have hvb:v<=1000:=by omega
  clear hM hr hF hD hB ih bh o b1 d1 k1 a2 K am;go_enter func49,ntmps49;go_upto_region 1 with fail;(try rw[r]);(try rw[M]);clear r M;by_cases hd0:0<dv
  .have aB:(0:Int)<(dv:Int):=by omega
   have bd:Hid (dv=Fv):=hid (by rcases aO.out with h|h<;>omega);clear hd0;go_wp2;go_ret;exact⟨by rw[ba.out,bd.out]<;>rfl,aH.out,D,HD.out,aV.out⟩
  .have aB:¬(0:Int)<(dv:Int):=by omega
   clear hd0 aO;go_upto_region 5 with fail;clear z0;go_loopw [9,10,11] (fun s9 s10 s11 wr=>∃(i b:Nat) (D:List Nat),i<=ns.length/\b<=ns.length/\s11=.int .i64 i/\s10=.int .i64 b/\s9=.int .i64 (lwt ns v i:Nat)/\Hid (KB od X wr/\DOk F ns.length D/\Blk wr od 3 (icells D)/\LBest ns F v i [] b)) (fun _ _ s11 _=>ns.length-(intOf s11).toNat)
   case atStart=>exact⟨0,0,D,by omega,by omega,rfl,rfl,rfl,hid ⟨KB.refl _ _,HD.out,aV.out,LBest.start⟩⟩
   case round=>
    obtain⟨i,b,D,hi,hb,rfl,rfl,rfl,l⟩:=hrel;obtain⟨g,bB⟩:∃g,g=wr:=⟨_,rfl⟩
    subst bB;have u:Hid (Blk g H 24 #[.slice A ns.length c,.int .i64 root]/\H+1<=g.heap.size/\KB od w g):=hid ⟨l.out.1.blk aq.out (by have:=s.out;omega),by have:=l.out.1.size;have:=bA.out;omega,aH.out.trans l.out.1⟩;have ag:Hid (LM g od A vs ns ra):=hid (HM.out.kb (by have:=s.out;omega) u.out.2.2);have g0:g.cell? ⟨H,0,none⟩=some (.slice A ns.length c):=u.out.1.cell 0;have bl:=zx1 ns v i;have ae:=hid (zsp ns v i);obtain⟨wg,ac⟩:=ex (lwt ns v i)
    rw[ac]at bl ae;have a7:=hid ac;(try rw[ac]);clear ac;by_cases o:i<ns.length
    .have az:(i:Int)<(ns.length:Int):=by omega
     obtain⟨ov,bt,rv,bv⟩:=ag.out.rch.row v U;obtain⟨oi,a8,ri,bi⟩:=ag.out.rch.row i o;obtain⟨p,hp⟩:=ex ((marks ns v).getD i false)
     obtain⟨q,V⟩:=ex ((marks ns i).getD v false)
     have y1:g.cell? ⟨ov,i,none⟩=some (.bool p):=by rw[bv.cell,zah (by rw[zbe HR.out U];exact o),hp]
     have y2:g.cell? ⟨oi,v,none⟩=some (.bool q):=by rw[bi.cell,zah (by rw[zbe HR.out o];exact U),V]
     have E:Hid (Gr.mt ns v i=(p && q)):=hid (by unfold Gr.mt mkd;rw[hp,V]);have hib:i<=1000:=by omega
     clear bv bi bt a8 hp V;cases p with
     |false=>
      have O:Hid (LBest ns F v (i+1) [] b/\lwt ns v (i+1)=wg):=hid ⟨l.out.2.2.2.skip (by rw[E.out];rfl),by rw[ae.out,if_neg (by rw[E.out];simp)];rfl⟩;go_wp2;go_roundw
      case rel=>exact⟨i+1,b,D,by omega,hb,by go_num,rfl,by rw[O.out.2],hid ⟨l.out.1,l.out.2.1,l.out.2.2.1,O.out.1⟩⟩
      case measure=>simp[intOf];omega
     |true=>
      cases q with
      |false=>
       have O:Hid (LBest ns F v (i+1) [] b/\lwt ns v (i+1)=wg):=hid ⟨l.out.2.2.2.skip (by rw[E.out];rfl),by rw[ae.out,if_neg (by rw[E.out];simp)];rfl⟩;go_wp2;go_roundw
       case rel=>exact⟨i+1,b,D,by omega,hb,by go_num,rfl,by rw[O.out.2],hid ⟨l.out.1,l.out.2.1,l.out.2.2.1,O.out.1⟩⟩
       case measure=>simp[intOf];omega
      |true=>
       have bz:Hid (lwt ns v (i+1)=wg+1):=hid (by rw[ae.out,if_pos (by rw[E.out];rfl)]);have aD:Hid (Gr.mt ns v i=true):=hid E.out;obtain⟨ad,k,i2,rfl,I⟩:=ag.out.at_.node o;obtain⟨ka,kn,kc⟩:=k;obtain⟨Y,bf,ic⟩:=i2;have ax:ns[i]∈ns:=List.getElem_mem o;obtain⟨bn,aQ⟩:=hks _ ax;have R:Hid (Gr.succ ns i=ns[i].keys++ns[i].items/\∀x∈ns[i].keys++ns[i].items,x<ns.length):=hid ⟨zda o,HR.out _ ax⟩;obtain⟨n,hn⟩:=ex (ns[i])
       rw[hn]at I R bn aQ;obtain rfl:kn=n.keys.length:=I.kn;obtain rfl:bf=n.items.length:=I.inn;have x0:=I.c0;have x1:=I.c1;have x2:=I.c2;have x3:=I.c3;have x4:=I.c4;have aE:Hid (RowAt intL g od ka n.keys/\RowAt intL g od Y n.items):=hid ⟨I.keys,I.items⟩;clear I hn ax;go_upto_region 10 with fail;obtain⟨a,av⟩:=ex (g.alloc (.cells #[.int .i64 n.kind,.string ⟨n.text.toArray⟩,.bool n.ord,.slice ka n.keys.length kc,.slice Y n.items.length ic] 36))
       obtain⟨Z,al⟩:=ex g.heap.size
       have d:Hid (Blk a Z 36 #[.int .i64 n.kind,.string ⟨n.text.toArray⟩,.bool n.ord,.slice ka n.keys.length kc,.slice Y n.items.length ic]/\Below g.heap.size g a/\Z<a.heap.size/\g.heap.size<=Z):=hid (by rw[<-av,<-al];exact⟨Blk.new _ _ _,(Below.refl _ _).alloc (Nat.le_refl _) _,by simp,Nat.le_refl _⟩);(try rw[av]);(try rw[al]);have s3:a.cell? ⟨Z,3,none⟩=some (.slice ka n.keys.length kc):=d.out.1.cell 3;have s4:a.cell? ⟨Z,4,none⟩=some (.slice Y n.items.length ic):=d.out.1.cell 4;clear av al x0 x1 x2 x3 x4 g0 y1 y2 rv ri;go_cut [13] (fun s13 wx=>∃A2 c2,s13=.slice A2 (n.keys.length+n.items.length) c2/\Hid (OwnRow intL wx a.heap.size 3 (.slice A2 (n.keys.length+n.items.length) c2) (n.keys++n.items)/\Below a.heap.size a wx))
       case first=>
        have s3a:(a.alloc (.cells #[] 3)).cell? ⟨Z,3,none⟩=some (.slice ka n.keys.length kc):=(d.out.1.alloc _).cell 3;have s4a:(a.alloc (.cells #[] 3)).cell? ⟨Z,4,none⟩=some (.slice Y n.items.length ic):=(d.out.1.alloc _).cell 4;have L:OwnRow intL (a.alloc (.cells #[] 3)).drew a.heap.size 3 (.slice (some ⟨a.heap.size,0,none⟩) ([]:List Nat).length 0) []:=zft a;have z:od<=g.heap.size:=by have:=s.out;have:=u.out.2.1;omega
        have an:Below od g (a.alloc (.cells #[] 3)).drew:=below_drewN ((d.out.2.1.mono z).alloc (Nat.le_trans z d.out.2.1.size) _) 1;have aW:RowAt intL (a.alloc (.cells #[] 3)).drew od ka n.keys:=aE.out.1.below an;have ah:RowAt intL (a.alloc (.cells #[] 3)).drew od Y n.items:=aE.out.2.below an;have Q:Hid (a.heap.size<=(a.alloc (.cells #[] 3)).drew.heap.size/\od<=a.heap.size/\Z<a.heap.size):=hid ⟨by simp,Nat.le_trans z d.out.2.1.size,d.out.1.lt⟩;have a0:Hid (Blk (a.alloc (.cells #[] 3)).drew Z 36 #[.int .i64 n.kind,.string ⟨n.text.toArray⟩,.bool n.ord,.slice ka n.keys.length kc,.slice Y n.items.length ic]/\RowAt intL (a.alloc (.cells #[] 3)).drew od Y n.items):=hid ⟨d.out.1.alloc _,ah⟩;have bj:([]:List Nat).length+n.keys.length<=1073741824:=by simp;omega
        have bw:n.keys.length+n.items.length<=1073741824:=by omega
        have ak:=Q.out.1;clear an ah z;go_region_law (first
         | (refine zai _ rfl (.tmp 56) (.tmp 58) 34 3 8 rfl intT a.heap.size (.slice (some ⟨a.heap.size,0,none⟩) ([]:List Nat).length 0) [] rfl L _ _ kc n.keys rfl aW bj ak ?_;intro v1 X m a4 aY;rw[List.nil_append]at m;obtain⟨A8,c8,bx,_⟩:=m.form;subst bx;have J:=L.grown_below a4 ak;have s41:X.cell? ⟨Z,4,none⟩=some (.slice Y n.items.length ic):=(a0.out.1.below J Q.out.2.2).cell 4;have aG:RowAt intL X od Y n.items:=a0.out.2.below (J.mono Q.out.2.1);have r:a.heap.size<=X.heap.size:=Nat.le_trans ak J.size;have aq:=hid J;clear a4 aY J)
         | (refine zai _ rfl (.tmp 59) (.tmp 61) 34 3 8 rfl intT a.heap.size (.slice A8 n.keys.length c8) n.keys rfl m _ _ ic n.items rfl aG bw r ?_;intro v2 w2 t aC aT;obtain⟨A9,c9,aJ,_⟩:=t.form;rw[List.length_append]at aJ;subst aJ;have bo:Hid (OwnRow intL w2 a.heap.size 3 (.slice A9 (n.keys.length+n.items.length) c9) (n.keys++n.items)/\Below a.heap.size a w2):=hid ⟨t,(below_drewN ((Below.refl _ _).alloc (Nat.le_refl _) _) 1).trans (aq.out.trans (m.grown_below aC r))⟩;clear t aC aT))
        all_goals
         go_wp2;go_meet;exact⟨A9,c9,rfl,bo⟩
       case rest=>
        obtain⟨A2,c2,rfl,HN⟩:=hcut;have bk:Hid (KB od g wc):=hid ((KB.of_below d.out.2.1).trans (KB.of_below HN.out.2));have aL:Hid (od<a.heap.size/\a.heap.size<=wc.heap.size):=hid ⟨by have:=d.out;have:=s.out;have:=u.out;omega,HN.out.2.size⟩;have be:Hid (Blk wc od 3 (icells D)):=hid (by
         have h1:=l.out.2.2.1.below d.out.2.1 l.out.2.2.1.lt;exact h1.below HN.out.2 h1.lt)
        have aN:Hid (OwnRow intL wc a.heap.size 3 (.slice A2 (n.keys.length+n.items.length) c2) (n.keys++n.items)):=hid HN.out.1;obtain⟨T,ab⟩:=ex (n.keys++n.items)
        obtain⟨nl,P⟩:=ex (n.keys.length+n.items.length)
        have a3:T.length=nl:=by rw[<-ab,<-P];simp
        have aa:=hid a3;have hnb:nl<=2000:=by omega
        rw[P,ab]at aN;rw[ab]at R;(try rw[P]);clear HN ab s3 s4 a3;go_upto_region 12 with fail;go_loopw [10,14] (fun s10 s14 wr=>∃(j b:Nat) (D:List Nat),j<=nl/\b<=ns.length/\s14=.int .i64 j/\s10=.int .i64 b/\Hid (KB od wc wr/\DOk F ns.length D/\Blk wr od 3 (icells D)/\LBest ns F v i (T.take j) b)) (fun _ s14 _=>nl-(intOf s14).toNat)
        case atStart=>exact⟨0,b,D,by omega,hb,rfl,rfl,hid ⟨KB.refl _ _,l.out.2.1,be.out,by simpa using l.out.2.2.2⟩⟩
        case round=>
         obtain⟨j,b,D,hj,hb,rfl,rfl,B⟩:=hrel;obtain⟨C,br⟩:∃C,C=wr:=⟨_,rfl⟩
         subst br;have ap:Hid (KB od g C):=hid (bk.out.trans B.out.1);by_cases hlj:j<nl
         .have a1:(j:Int)<(nl:Int):=by omega
          have N:j<T.length:=by rw[aa.out];exact hlj
          obtain⟨y,hy⟩:=ex (T[j])
          have au:Hid (OwnRow intL C a.heap.size 3 (.slice A2 nl c2) T):=hid (zu6 aN.out B.out.1 aL.out.1);obtain⟨aS,rfl,_,y0⟩:=zae (zd8 au.out).1 N;rw[hy]at y0;have af:y<ns.length:=R.out.2 y (by rw[<-hy];exact List.getElem_mem N);have hyI:(y:Int)<(ns.length:Int):=by omega
          have a9:Hid (y∈Gr.succ ns i):=hid (by rw[R.out.1,<-hy];exact List.getElem_mem N);have aK:Hid (T.take (j+1)=T.take j++[y]):=hid (by rw[List.take_succ_eq_append_getElem N,hy]);have aR:Hid (LM C od (some ad) vs ns ra):=hid (ag.out.kb (by have:=s.out;have:=u.out;omega) ap.out);obtain⟨oy,bm,ry,bY⟩:=aR.out.rch.row y af;obtain⟨q,V⟩:=ex ((marks ns y).getD v false)
          have y2:C.cell? ⟨oy,v,none⟩=some (.bool q):=by rw[bY.cell,zah (by rw[zbe HR.out af];exact U),V]
          have ar:Hid (Blk C H 24 #[.slice (some ad) ns.length c,.int .i64 root]/\H<C.heap.size):=hid (by have h:=ap.out.blk u.out.1 (by have:=s.out;omega);exact⟨h,h.lt⟩);have hjb:j<=2000:=by omega
          clear bY bm N hy;cases q with
          |true=>
           have S:Hid (LBest ns F v i (T.take (j+1)) b):=hid (by rw[aK.out];exact B.out.2.2.2.old V);clear V;go_wp2;go_roundw
           case rel=>exact⟨j+1,b,D,by omega,hb,by go_num,rfl,hid ⟨B.out.1,B.out.2.1,B.out.2.2.1,S.out⟩⟩
           case measure=>simp[intOf];omega
          |false=>
           have bc:Hid (F y<F v):=hid (HF.out.lt HR.out U o aD.out a9.out V);have aj:=hid (HF.out.le_n HR.out (F y) y (Nat.le_refl _) af);have S:Hid (LBest ns F v i (T.take (j+1)) (max b (F y))):=hid (by rw[aK.out];exact B.out.2.2.2.new V);have aM:Hid (∀W,Below C.heap.size C W->Calls prog 49 #[.agg #[.slice (some ad) ns.length c,.int .i64 root],.slice (some ra) ns.length cR,.slice (some ⟨od,0,none⟩) ns.length ns.length,.int .i64 y] W fun e w'=>e=.returned (.int .i64 (F y))/\KB od C w'/\∃D',DOk F ns.length D'/\Blk w' od 3 (icells D')):=hid (fun W hW=>
            (bb.out y D W bc.out af (aR.out.kb (by have:=s.out;have:=ar.out.2;omega) (KB.of_below hW)) B.out.2.1 (B.out.2.2.1.below hW B.out.2.2.1.lt)).mono (fun _ _ ⟨e1,e2,e3⟩=>⟨e1,(KB.of_below hW).trans e2,e3⟩))
           obtain⟨fy,ay⟩:=ex (F y)
           rw[ay]at aM S aj;have hfb:fy<=1000:=by have:=aj.out;omega
           have hbb:b<=1000:=by omega
           have aP:Hid (max b fy<=ns.length):=hid (by have:=aj.out;omega);obtain⟨mx,G⟩:=ex (max b fy)
           rw[G]at S aP;obtain⟨q0,q1⟩:=cells2 ar.out.1;have bp:Hid (∀W,KB od C W->W.cell? ⟨H,0,none⟩=some (.slice (some ad) ns.length c)/\W.cell? ⟨H,1,none⟩=some (.int .i64 root)/\W.cell? (aS.add j)=some (.int .i64 y)):=hid (fun W hW=>by
            have h:=hW.blk ar.out.1 (by have:=s.out;omega);refine⟨h.cell 0,h.cell 1,?_⟩;obtain⟨ad4,e4,_,y4⟩:=zae (zd8 (zu6 au.out hW aL.out.1)).1 (show j<T.length by rw[aa.out];exact hlj);injection e4 with e4
            subst e4;rw[y4];obtain⟨ad5,e5,_,y5⟩:=zae (zd8 au.out).1 (show j<T.length by rw[aa.out];exact hlj);injection e5 with e5
            subst e5;rw[y0]at y5;exact y5.symm)
           clear V ay;go_upto_region 15 with fail;clear y2 ry;have aw:((b:Int)<(fy:Int)/\mx=fy)\/(¬(b:Int)<(fy:Int)/\mx=b):=by omega
           clear G;rcases aw with⟨aX,G⟩|⟨aX,G⟩
           all_goals
            have aF:=hid G;clear G;go_region_held3 (fun w'=>w'.cell? ⟨H,0,none⟩=some (.slice (some ad) ns.length c)/\w'.cell? ⟨H,1,none⟩=some (.int .i64 root)/\w'.cell? (aS.add j)=some (.int .i64 y))
             (first|go_keep|exact bp.out _ (by(first|assumption|exact KB.refl _ _|exact(KB.refl _ _).drewN 1|exact KB.drewN (by assumption) 1))) (first
             | (go_at_call 49;(with_reducible refine(aM.out _ ?_).mono ?_);(first|assumption|exact Below.refl _ _|exact(Below.refl _ _).drew|exact Below.drew (by assumption));rintro e1 aA ⟨rfl,aZ,D1,aI,aU⟩))
            all_goals
             have H3:Hid (KB od C aA/\DOk F ns.length D1/\Blk aA od 3 (icells D1)):=hid ⟨aZ,aI,aU⟩;clear aZ aI aU q0 q1 y0;go_wp2;go_roundw
             case rel=>exact⟨j+1,mx,D1,by omega,aP.out,by go_num,by(rw[aF.out];first|rfl| (congr 1;omega)),hid ⟨B.out.1.trans H3.out.1,H3.out.2.1,H3.out.2.2,S.out⟩⟩
             case measure=>simp[intOf];omega
         .have a1:¬(j:Int)<(nl:Int):=by omega
          have HE:Hid (LBest ns F v (i+1) [] b):=hid (B.out.2.2.2.next aD.out (by rw[R.out.1,List.take_of_length_le (by rw[aa.out];omega)]));go_wp2;go_roundw
          case rel=>exact⟨i+1,b,D,by omega,hb,by go_num,rfl,by rw[bz.out];go_num,hid ⟨l.out.1.trans ap.out,B.out.2.1,B.out.2.2.1,HE.out⟩⟩
          case measure=>simp[intOf];omega
    .have az:¬(i:Int)<(ns.length:Int):=by omega
     have ai:Hid (wg+b=Fv):=hid (by
      obtain rfl:i=ns.length:=by omega
      have:=l.out.2.2.2.last HR.out U HF.out;rw[a7.out,ao.out]at this;exact this)
     have hsb:wg+b<=1000:=by rw[ai.out];omega
     have zf:∀k,g.frozen? ⟨od,k,none⟩=false:=l.out.2.2.1.frozen;have z0:g.cell? ⟨od,v,none⟩=some (.int .i64 ((D.getD v 0:Nat):Int)):=by rw[l.out.2.2.1.cell,zad (by rw[l.out.2.1.1];exact U)]
     have bg:Hid (DOk F ns.length (D.set v (F v))):=hid (l.out.2.1.set v);have a5:Hid (KB od w g):=hid u.out.2.2;have bq:Hid (Blk (g.setCell ⟨od,v,none⟩ (.int .i64 ((wg:Int)+(b:Int)))) od 3 (icells (D.set v (F v)))):=hid (by
      have h1:=l.out.2.2.1.set_ v (.int .i64 ((wg:Int)+(b:Int)));have e:(wg:Int)+(b:Int)=((F v:Nat):Int):=by rw[ao.out,<-ai.out];omega
      rw[e,zaw]at h1;rw[e];exact h1)
     have bs:Hid (Value.int .i64 ((wg:Int)+(b:Int))=.int .i64 (F v:Int)):=hid (by rw[ao.out,<-ai.out];congr 1);go_wp2;go_ret;exact⟨by rw[<-bs.out]<;>rfl,a5.out.set _ _,D.set v (F v),bg.out,bq.out⟩
def slL:Lay SV:={enc:=fun x=>[x.v],sz:=1,len:=fun _=>rfl,one:=fun x u hu=>by simp at hu;subst hu;rfl,pos:=by omega}
theorem slT:SliceT prog slL 76 52 24:=zby slL 76 52 (.slice none 0 0) 24 underlying76 (by kernel_rfl) rfl (by omega)
structure RD (w wr:World) (gc:Array Value) (v:Value) (R:List SV) (ns:List Gr.Nd):Prop where
 below:Below w.heap.size w wr
 gbox:Blk wr w.heap.size 24 gc
 own:OwnRow slL wr (w.heap.size+1) 52 v R
 hd:w.heap.size+1<=wr.heap.size
 rows:∀j (hj:j<R.length),∃ob,R[j]=⟨some ⟨ob,0,none⟩,ns.length,ns.length⟩/\Blk wr ob 4 (bcells (marks ns j))
theorem zu7 {w:World} {base:Nat} {v:Value} {R:List SV} {k:Nat} {cs:Array Value} (h:OwnRow slL w base 52 v R) (hb:Blk w k 4 cs):some k≠v.ownBlock:=by
 rcases h.2 with⟨rfl,_⟩|⟨g,cap,cur,rfl,_,a,_⟩
 .exact fun e=>by cases e
 .intro e;have e:some k=some g:=e;injection e with e
  subst e;have hb:w.heap[k]? =some (.cells cs 4 (0,0)):=hb;rw[hb]at a;injection a with a
  injection a with _ a _
  exact absurd a (by decide)
section
variable {w wr w2:World} {gc:Array Value} {v v':Value} {R:List SV} {ns:List Gr.Nd} {A:Option Addr} {c:Nat}
theorem RD.later (h:RD w wr gc v R ns) (hb:Below wr.heap.size wr w2):RD w w2 gc v R ns:=
 ⟨h.below.trans (hb.mono h.below.size),h.gbox.below hb h.gbox.lt,h.own.later hb,Nat.le_trans h.hd hb.size,fun j e=>by
  obtain⟨b,d,a⟩:=h.rows j e;exact⟨b,d,a.below hb a.lt⟩⟩
theorem RD.alloc (h:RD w wr gc v R ns) (o:Obj):RD w (wr.alloc o) gc v R ns:=h.later ((Below.refl _ _).alloc (Nat.le_refl _) _)
theorem RD.grown (h:RD w wr gc v R ns) {ob:Nat} (hob:Blk wr ob 4 (bcells (marks ns R.length))) (ho:OwnRow slL w2 (w.heap.size+1) 52 v' (R++[⟨some ⟨ob,0,none⟩,ns.length,ns.length⟩])) (hg:wr.grownBy w2 v.ownBlock):RD w w2 gc v' (R++[⟨some ⟨ob,0,none⟩,ns.length,ns.length⟩]) ns:=
 ⟨h.below.trans ((h.own.grown_below hg h.hd).mono (by omega)),h.gbox.grown hg (fun e=>absurd (h.own.lt _ e.symm).1 (by omega)),ho,Nat.le_trans h.hd (h.own.grown_below hg h.hd).size,fun j g=>by
  by_cases hjl:j<R.length
  .obtain⟨b,f,d⟩:=h.rows j hjl;exact⟨b,by rw[List.getElem_append_left hjl];exact f,d.grown hg (zu7 h.own d)⟩
  .have a:j=R.length:=by simp at g;omega
   subst a;exact⟨ob,by rw[List.getElem_concat_length rfl],hob.grown hg (zu7 h.own hob)⟩⟩
theorem RD.rch (h:RD w wr gc (.slice A R.length c) R ns) (hl:R.length=ns.length) (hn:0<ns.length):∃ra,A=some ra/\RchAt wr wr.heap.size ra ns:=by
 obtain⟨A',c',e,f⟩:=h.own.form;injection e with e1 _ e2
 subst e1;obtain⟨ra,b,i,_⟩:=f.get (k:=0) (by omega);refine⟨ra,b,i,fun v hv=>?_⟩;obtain⟨j,g,d⟩:=h.rows v (by omega);obtain⟨ra2,a,h6,l,_⟩:=f.get (k:=v) (by omega);rw[b]at a;injection a with a
 subst a;refine⟨j,d.lt,?_,d⟩;have:=l (R[v].v) rfl;rw[show v*slL.sz=v from Nat.mul_one v,g]at this;exact this
end
namespace Gr
def treeI (ns:List Nd) (u k:Nat):Bool:=(((ns[u]?.map Nd.items).getD []).take k).all (fun x=>!(mkd (marks ns x) u))
def treeN (ns:List Nd) (i:Nat):Bool:=(List.range i).all (fun u=>((ns[u]?.map Nd.items).getD []).all (fun x=>!(mkd (marks ns x) u)))
theorem znt (ns:List Nd) (u:Nat):treeI ns u 0=true:=by unfold treeI;simp
theorem znu {ns:List Nd} {u k:Nat} (hu:u<ns.length) (hk:k<ns[u].items.length):treeI ns u (k+1)=(treeI ns u k && !(mkd (marks ns ns[u].items[k]) u)):=by
 unfold treeI;rw[List.getElem?_eq_getElem hu];simp only[Option.map_some,Option.getD_some];rw[List.take_succ_eq_append_getElem hk,List.all_append];simp
theorem znv {ns:List Nd} {i k:Nat} (hi:i<ns.length) (hk:ns[i].items.length<=k):treeN ns (i+1)=(treeN ns i && treeI ns i k):=by
 unfold treeN treeI;rw[List.range_succ,List.all_append];simp only[List.all_cons,List.all_nil,Bool.and_true];rw[List.getElem?_eq_getElem hi];simp only[Option.map_some,Option.getD_some];rw[List.take_of_length_le hk]
end Gr
theorem znw (A:Option Addr) (c:Nat) (r:Nat) (vs:List NV) (ns:List Gr.Nd) (hw:WellF ns r) (hnl:ns.length<=1000) (hks:∀n∈ns,n.keys.length<=1000/\n.items.length<=1000) (w:World) (h:GAt w w.heap.size A vs ns):
 Calls prog 33 #[.agg #[.slice A ns.length c,.int .i64 r]] w fun e w'=>e=.returned (.tuple #[.int .i64 (depth ns r).1,.bool (depth ns r).2])/\Below w.heap.size w w':=by
 have H:=hid h;obtain⟨F,hF,ak,U⟩:=hw.depth;have HW:=hid hw;have HF:=hid hF;have aw:=hid ak;have aE:=hid U;have ao:=hw.root;have S:=hF.le_n hw.refs (F r) r (Nat.le_refl _) hw.root;obtain⟨gc,C⟩:∃gc:Array Value,#[.slice A ns.length c,.int .i64 r]=gc:=⟨_,rfl⟩
 have m:Hid (gc[0]? =some (.slice A ns.length c)/\gc[1]? =some (.int .i64 r)):=hid (by rw[<-C];exact⟨rfl,rfl⟩);obtain⟨w1,J⟩:=ex (w.alloc (.cells #[.slice A ns.length c,.int .i64 r] 24))
 have ax:Hid (RD w w1 gc (.slice none 0 0) [] ns):=hid (by rw[<-J,<-C];exact⟨(Below.refl _ _).alloc (Nat.le_refl _) _,Blk.new _ _ _,OwnRow.nil,by simp,fun j p=>by simp at p⟩);have aA:=hid (fun a ha W s=>zd9 A c a (r:Int) vs ns hw.refs hnl hks ha W s);clear h C hw hF ak U;go_enter func33,ntmps33;go_upto_region 3 with fail;(try rw[J]);clear J;go_loopw [4,5] (fun s4 s5 wr=>∃(i:Nat) (R:List SV) (AL:Option Addr) (cL:Nat),i<=ns.length/\R.length<=ns.length/\s5=.int .i64 i/\s4=.slice AL R.length cL/\Hid (RD w wr gc (.slice AL R.length cL) R ns/\R.length=i)) (fun _ s5 _=>ns.length-(intOf s5).toNat)
 case atStart=>exact⟨0,[],none,0,by omega,by simp,rfl,rfl,hid ⟨ax.out,rfl⟩⟩
 case round=>
  obtain⟨i,R,AL,cL,hi,hRl,rfl,rfl,d⟩:=hrel;obtain⟨b,aC⟩:∃b,b=wr:=⟨_,rfl⟩
  subst aC;have g0:b.cell? ⟨w.heap.size,0,none⟩=some (.slice A ns.length c):=by rw[d.out.1.gbox.cell];exact m.out.1
  have g1:b.cell? ⟨w.heap.size,1,none⟩=some (.int .i64 r):=by rw[d.out.1.gbox.cell];exact m.out.2
  have hib:i<=1000:=by omega
  by_cases hlt:i<ns.length
  .have T:(i:Int)<(ns.length:Int):=by omega
   have HC:=hid (aA.out i hlt b ((H.out.below d.out.1.below).more d.out.1.below.size));go_wp2_with fail;refine HC.out.mono ?_;rintro e w2 ⟨x,rfl,ar,G,N⟩;have f:Hid (RD w w2 gc (.slice AL R.length cL) R ns/\Blk w2 x 4 (bcells (marks ns i))/\w.heap.size+1<=w2.heap.size):=hid ⟨d.out.1.later G,N,Nat.le_trans d.out.1.hd G.size⟩;clear ar G N g0 g1;go_wp2_with (at_builtin;go_must (refine zab _ rfl (.tmp 16) (.tmp 20) 76 52 24 rfl slT (w.heap.size+1) (.slice AL R.length cL) R rfl (f.out.1.own.alloc _) _ _ 1 ([⟨some ⟨x,0,none⟩,ns.length,ns.length⟩]:List SV) rfl (RowAt.lit1 _ _ rfl _ ?_) ?_ ?_ ?_))
   any_goals (first|rfl| (have:=f.out.2.2;omega)| (have:=f.out.2.2;simp;omega)| (rw[World.size_alloc];have:=f.out.2.2;omega))
   intro v' w5 g hg av;have I:Hid (RD w w5 gc v' (R++([⟨some ⟨x,0,none⟩,ns.length,ns.length⟩]:List SV)) ns/\(R++([⟨some ⟨x,0,none⟩,ns.length,ns.length⟩]:List SV)).length=i+1):=hid ⟨(f.out.1.alloc _).grown (by rw[d.out.2];exact f.out.2.1.alloc _) g hg,by simp[d.out.2]⟩;obtain⟨A5,c5,P,_⟩:=g.form;obtain⟨R5,aj⟩:=ex (R++([⟨some ⟨x,0,none⟩,ns.length,ns.length⟩]:List SV))
   rw[aj]at I P;subst P;clear g hg av aj;go_wp2;go_roundw
   case rel=>exact⟨i+1,R5,A5,c5,by omega,by rw[I.out.2];omega,by go_num,rfl,I⟩
   case measure=>simp[intOf];omega
  .have T:¬(i:Int)<(ns.length:Int):=by omega
   obtain⟨ra,rfl,Q⟩:=d.out.1.rch (by rw[d.out.2];omega) (by omega);have Z:=hid Q;have X:Hid (R.length=ns.length):=hid (by rw[d.out.2];omega);obtain⟨rl,l⟩:=ex R.length
   have hrlI:(ns.length:Int)<=(rl:Int):=by have:=X.out;omega
   have aa:Hid (rl=ns.length):=hid (by rw[<-l];exact X.out);have ae:Hid (Below w.heap.size w b):=hid d.out.1.below;have al:=hid ((H.out.below d.out.1.below).more d.out.1.below.size);(try rw[l]);clear Q l;go_upto_region 8 with fail;go_loop [6,7] (fun s6 s7=>∃k:Nat,k<=ns.length/\s7=.int .i64 k/\s6=.bool (treeN ns k)) (fun _ s7=>ns.length-(intOf s7).toNat)
   case atStart=>exact⟨0,by omega,rfl,rfl⟩
   case round=>
    obtain⟨k,hk,rfl,rfl⟩:=hrel;by_cases hlk:k<ns.length
    .have ai:(k:Int)<(ns.length:Int):=by omega
     have K:ns[k]∈ns:=List.getElem_mem hlk;obtain⟨am,au⟩:=hks _ K;have t:=hid (HW.out.refs _ K);have ag:Hid (∀j (p:j<ns[k].items.length),treeI ns k (j+1)=(treeI ns k j && !(mkd (marks ns ns[k].items[j]) k))):=hid (fun j p=>znu hlk p);have ac:Hid (∀j,ns[k].items.length<=j->treeN ns (k+1)=(treeN ns k && treeI ns k j)):=hid (fun j p=>znv hlk p);obtain⟨ad,ks,aD,rfl,L⟩:=al.out.node hlk;obtain⟨ka,kn,kc⟩:=ks;obtain⟨ia,ay,ic⟩:=aD;obtain⟨n,hn⟩:=ex (ns[k])
     rw[hn]at L au t;have O:Hid (∀j (p:j<n.items.length),treeI ns k (j+1)=(treeI ns k j && !(mkd (marks ns n.items[j]) k))):=hid (by subst hn;exact ag.out);have u:Hid (∀j,n.items.length<=j->treeN ns (k+1)=(treeN ns k && treeI ns k j)):=hid (by subst hn;exact ac.out);obtain rfl:ay=n.items.length:=L.inn;have x4:=L.c4;have aB:Hid (RowAt intL b b.heap.size ia n.items):=hid L.items;obtain⟨tn,E⟩:=ex (treeN ns k)
     (try rw[E]);rw[E]at u;have hkb:k<=1000:=by omega
     clear L hn K am E ag ac;go_upto_region 11 with fail;go_loop [6,8] (fun s6 s8=>∃j:Nat,j<=n.items.length/\s8=.int .i64 j/\s6=.bool (tn && treeI ns k j)) (fun _ s8=>n.items.length-(intOf s8).toNat)
     case atStart=>exact⟨0,by omega,rfl,by rw[znt,Bool.and_true]⟩
     case round=>
      obtain⟨j,p,rfl,rfl⟩:=hrel;obtain⟨tb,z⟩:=ex (tn && treeI ns k j)
      (try rw[z]);have ab:=hid z;clear z;by_cases hlj:j<n.items.length
      .have ah:(j:Int)<(n.items.length:Int):=by omega
       obtain⟨y,hy⟩:=ex (n.items[j])
       obtain⟨adi,rfl,_,y0⟩:=zae aB.out hlj;rw[hy]at y0;have af:y<ns.length:=t.out y (List.mem_append_right _ (by rw[<-hy];exact List.getElem_mem hlj));have hyI:(y:Int)<(rl:Int):=by omega
       obtain⟨oy,aF,ry,bY⟩:=Z.out.row y af;obtain⟨q,hq⟩:=ex ((marks ns y).getD k false)
       have y2:b.cell? ⟨oy,k,none⟩=some (.bool q):=by rw[bY.cell,zah (by rw[zbe HW.out.refs af];exact hlk),hq]
       have Y:Hid ((tn && treeI ns k (j+1))=(tb && !q)):=hid (by rw[O.out j hlj,<-Bool.and_assoc,ab.out,hy];unfold mkd;rw[hq]);have hjb:j<=1000:=by omega
       clear bY aF hy hq;cases tb with
       |false=>
        go_wp2;go_round
        case rel=>exact⟨j+1,by omega,by go_num,by rw[Y.out];rfl⟩
        case measure=>simp[intOf];omega
       |true=>
        go_wp2;go_round
        case rel=>exact⟨j+1,by omega,by go_num,by rw[Y.out];rfl⟩
        case measure=>simp[intOf];omega
      .have ah:¬(j:Int)<(n.items.length:Int):=by omega
       have HE:Hid (treeN ns (k+1)=tb):=hid (by rw[u.out j (by omega),ab.out]);go_wp2;go_round
       case rel=>exact⟨k+1,by omega,by go_num,by rw[HE.out]⟩
       case measure=>simp[intOf];omega
    .have ai:¬(k:Int)<(ns.length:Int):=by omega
     have V:Hid (treeN ns k=(depth ns r).2):=hid (by
      obtain rfl:k=ns.length:=by omega
      rw[aE.out];rfl)
     obtain⟨tr,D⟩:=ex (treeN ns k)
     (try rw[D]);rw[D]at V;obtain⟨fr,o⟩:=ex (F r)
     have aq:Hid ((depth ns r).1=(fr:Int)-1):=hid (by rw[aw.out,o]);have M:Hid (fr<=ns.length):=hid (by rw[<-o];exact S);have hmk:=zb0 ns.length (by omega);have an:Hid (∀W od,Below b.heap.size b W->b.heap.size<=od->Blk W od 3 (icells (List.replicate ns.length 0))->Calls prog 49 #[.agg #[.slice A ns.length c,.int .i64 r],.slice (some ra) rl cL,.slice (some ⟨od,0,none⟩) ns.length ns.length,.int .i64 r] W fun e w'=>e=.returned (.int .i64 fr)/\Below b.heap.size b w'):=hid (fun W od s B hB=>by
      rw[aa.out];refine(zjc A c cL od (r:Int) vs ns ra F HW.out.refs HF.out hnl hks (F r+1) r (List.replicate ns.length 0) W (by omega) ao ⟨(al.out.below s).more B,?_⟩ (DOk.zero F ns.length) hB).mono ?_
      .have:=Z.out.below s;exact⟨Nat.lt_of_lt_of_le this.lt B,fun v hv=>by
        obtain⟨x,h1,h2⟩:=this.row v hv;exact⟨x,by omega,h2⟩⟩
      .rintro e w' ⟨h1,h2,_⟩;exact⟨by rw[h1,o],s.trans (h2.below B s.size)⟩)
     have hfb:fr<=1000:=by have:=M.out;omega
     clear o D hlk hk S;go_upto_region 14 with fail;have az:Hid (∀W,Below b.heap.size b W->W.cell? ⟨w.heap.size,0,none⟩=some (.slice A ns.length c)/\W.cell? ⟨w.heap.size,1,none⟩=some (.int .i64 r)):=hid (fun W s=>by
      have:=d.out.1.gbox.below s d.out.1.gbox.lt;exact⟨by rw[this.cell];exact m.out.1,by rw[this.cell];exact m.out.2⟩)
     go_cut [2,3] (fun s2 s3 wx=>s2=.int .i64 ((fr:Int)-1)/\s3=.bool tr/\Hid (Below b.heap.size b wx))
     case first=>
      go_region_held3 (fun w'=>w'.cell? ⟨w.heap.size,0,none⟩=some (.slice A ns.length c)/\w'.cell? ⟨w.heap.size,1,none⟩=some (.int .i64 r))
       (first|go_keep|exact az.out _ (by(first|assumption|exact Below.refl _ _|exact(Below.refl _ _).drew|exact Below.drew (by assumption)))) (first
       | (go_at_call 49;(with_reducible refine(an.out _ _ ?_ ?_ ?_).mono ?_);exact((Below.refl _ _).alloc (Nat.le_refl _) _).drew;exact Nat.le_refl _;exact Blk.new _ _ _;rintro e1 wc1 ⟨rfl,ap⟩))
      all_goals
       go_wp2;go_meet
      exact⟨by rw[IntWalk.i64_in _ (by omega)],rfl,hid ap⟩
     case rest=>
      obtain⟨rfl,rfl,HX⟩:=hcut;go_wp2;go_ret2;exact⟨by rw[aq.out,V.out]<;>rfl,ae.out.trans (HX.out.mono ae.out.size)⟩
end Go.Proofs.YtpjmhafmeieloaaGreatDoor

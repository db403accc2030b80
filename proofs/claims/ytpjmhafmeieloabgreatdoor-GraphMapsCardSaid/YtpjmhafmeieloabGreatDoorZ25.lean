import Derived.Test.YtpjmhafmeieloabGreatDoorGrRReach
namespace Go.Proofs.YtpjmhafmeieloabGreatDoor
open Gr
open _root_.Go.Proofs.Tryz
open _root_.Go.Lib (hid)
set_option maxRecDepth 100000
set_option maxHeartbeats 16000000
open Go.RowKit
namespace Gr
theorem zno {α:Type} (p q r:α->Bool) (l:List α) (h:∀x∈l,(p x=true->r x=true)/\(q x=true->r x=true)/\¬(p x=true/\q x=true)):l.countP p+l.countP q<=l.countP r:=by
 induction l with
 |nil=>simp
 |cons x l ih=>
  have h1:=ih (fun y d=>h y (.tail _ d));obtain⟨a,b,c⟩:=h x (.head _);rw[List.countP_cons,List.countP_cons,List.countP_cons];cases hp:p x<;>cases hq:q x<;>cases hr:r x<;>simp[hp,hq,hr]at a b c ⊢<;>omega
theorem LongR.le_n {ns:List Nd} {F:Nat->Nat} (hr:Refs ns) (hF:LongR (succ ns) ns.length F):∀(k v:Nat),F v<=k->v<ns.length->F v<=ns.length:=by
 classical
 have e:∀(k v:Nat),F v<=k->v<ns.length->F v<=(List.range ns.length).countP (fun i=>decide (Reach (succ ns) v i)):=by
  intro k
  induction k with
  |zero=>intro v h _;omega
  |succ k ih=>
   intro v h d;rcases hF.att v d with h1|⟨u,hu,h2,h3,x,hx,hn,h4⟩
   .rw[h1];unfold wt;apply List.countP_mono_left;intro i _ c;have:=of_decide_eq_true c;exact decide_eq_true this.1
   .have f:=hr.succ u x hx;have hp:=zqv (succ ns) ns.length v d;have g:=ih x (by omega) f;rw[h4];refine Nat.le_trans (Nat.add_le_add_left g _) ?_;unfold wt;refine zno _ _ _ _ (fun i _=>⟨fun c=>?_,fun c=>?_,?_⟩)
    .exact decide_eq_true (of_decide_eq_true c).1
    .exact decide_eq_true (h2.trans ((Reach.one hx).trans (of_decide_eq_true c)))
    .rintro⟨a,b⟩;exact hn ((of_decide_eq_true b).trans (of_decide_eq_true a).2)
 intro k v h d;exact Nat.le_trans (e k v h d) (Nat.le_trans List.countP_le_length (by simp))
end Gr
structure RchAt (w:World) (od:Nat) (ra:Addr) (ns:List Gr.Nd):Prop where
 lt:ra.block<od
 row:∀v,v<ns.length->∃ob,ob<od/\w.cell? (ra.add v)=some (.slice (some ⟨ob,0,none⟩) ns.length ns.length)/\Blk w ob 4 (bcells (marks ns v))
theorem RchAt.below {w w':World} {od:Nat} {ra:Addr} {ns:List Gr.Nd} (h:RchAt w od ra ns) (hb:Below od w w'):RchAt w' od ra ns:=
 ⟨h.lt,fun v b=>by
  obtain⟨e,a,c,d⟩:=h.row v b;exact⟨e,a,(hb.cell (by rw[zap];exact h.lt)).trans c,d.below hb a⟩⟩
def DOk (F:Nat->Nat) (n:Nat) (D:List Nat):Prop:=D.length=n/\∀v,v<n->D.getD v 0=0\/D.getD v 0=F v
theorem DOk.set {F:Nat->Nat} {n:Nat} {D:List Nat} (h:DOk F n D) (v:Nat):DOk F n (D.set v (F v)):=by
 refine⟨by rw[List.length_set];exact h.1,fun u a=>?_⟩;by_cases he:v=u
 .subst he;right;exact za1 _ _ _ _ (by rw[h.1];exact a)
 .rw[Gr.getD_set_ne _ _ _ _ _ he];exact h.2 u a
theorem DOk.zero (F:Nat->Nat) (n:Nat):DOk F n (List.replicate n 0):=⟨by simp,fun v a=>.inl (by simp[List.getD_eq_getElem?_getD,a])⟩
structure LM (w:World) (od:Nat) (A:Option Addr) (vs:List NV) (ns:List Gr.Nd) (ra:Addr):Prop where
 at_:GAt w od A vs ns
 rch:RchAt w od ra ns
theorem LM.kb {w w':World} {od:Nat} {A:Option Addr} {vs:List NV} {ns:List Gr.Nd} {ra:Addr} (h:LM w od A vs ns ra) (hs:od<=w.heap.size) (hk:KB od w w'):LM w' od A vs ns ra:=
 ⟨h.at_.below (hk.below (Nat.le_refl _) hs),h.rch.below (hk.below (Nat.le_refl _) hs)⟩
theorem zu2 {w w':World} {base od:Nat} {v:Value} {l:List Nat} (h:OwnRow intL w base 3 v l) (hk:KB od w w') (hb:od<base):OwnRow intL w' base 3 v l:=by
 obtain⟨b,c⟩:=h;refine⟨b,?_⟩;rcases c with h2|⟨g,cap,cur,he,hg,hB,hr⟩
 .exact .inl h2
 .have a:Blk w g 3 cur:=hB;exact .inr ⟨g,cap,cur,he,hg,hk.blk a (by omega),hr⟩
theorem zi8 (A:Option Addr) (c cR od:Nat) (root:Int) (vs:List NV) (ns:List Gr.Nd) (ra:Addr) (F:Nat->Nat) (hr:Refs ns) (hF:LongR (Gr.succ ns) ns.length F) (hnl:ns.length<=1000) (hks:∀n∈ns,n.keys.length<=1000/\n.items.length<=1000):
 ∀(f v:Nat) (D:List Nat) (w:World),F v<f->v<ns.length->LM w od A vs ns ra->DOk F ns.length D->Blk w od 3 (icells D)->
 Calls prog 50 #[.agg #[.slice A ns.length c,.int .i64 root],.slice (some ra) ns.length cR,.slice (some ⟨od,0,none⟩) ns.length ns.length,.int .i64 v] w fun e w'=>e=.returned (.int .i64 (F v))/\KB od w w'/\∃D',DOk F ns.length D'/\Blk w' od 3 (icells D'):=by
 intro f
 induction f with
 |zero=>intro v D w h;omega
 |succ f ih=>
  intro v D w bs T hM hD hB;have bw:Hid (∀(x:Nat) (D:List Nat) (w:World),F x<F v->x<ns.length->LM w od A vs ns ra->DOk F ns.length D->Blk w od 3 (icells D)->
   Calls prog 50 #[.agg #[.slice A ns.length c,.int .i64 root],.slice (some ra) ns.length cR,.slice (some ⟨od,0,none⟩) ns.length ns.length,.int .i64 x] w fun e w'=>e=.returned (.int .i64 (F x))/\KB od w w'/\∃D',DOk F ns.length D'/\Blk w' od 3 (icells D')):=hid (fun x D w h=>ih x D w (by omega))
  have HM:=hid hM;have HR:=hid hr;have HF:=hid hF;have HD:=hid hD;have hvI:(v:Int)<(ns.length:Int):=by omega
  have bj:=hF.le_n hr (F v) v (Nat.le_refl _) T;have br:=hF.pos T;obtain⟨Fv,N⟩:=ex (F v)
  have aw:=hid N;rw[N]at bj br;obtain⟨Z,r⟩:=ex (w.alloc (.cells #[.slice A ns.length c,.int .i64 root] 27))
  have m:=hB.lt;obtain⟨G,I⟩:=ex w.heap.size
  have s:Hid (od<G/\G=w.heap.size):=hid ⟨by omega,I.symm⟩;have b1:Blk Z G 27 #[.slice A ns.length c,.int .i64 root]:=by rw[<-r,<-I];exact Blk.new _ _ _
  have d1:Blk Z od 3 (icells D):=by rw[<-r];exact hB.alloc _
  have k1:KB od w Z:=by rw[<-r];exact(KB.refl _ _).alloc _
  have aD:Z.heap.size=G+1:=by rw[<-r,<-I];simp
  have ax:=hid b1;have aC:=hid d1;have a0:=hid k1;have bl:=hid aD;obtain⟨dv,aj⟩:=ex (D.getD v 0)
  have ay:Hid (dv=0\/dv=Fv):=hid (by rw[<-aj,<-N];exact hD.2 v T);have z0:Z.cell? ⟨od,v,none⟩=some (.int .i64 (dv:Int)):=by rw[d1.cell,zad (by rw[hD.1];exact T),aj]
  have be:Hid (Value.int .i64 (F v:Int)=.int .i64 (Fv:Int)):=hid (by rw[N]);have hvb:v<=1000:=by omega
  clear hM hr hF hD hB ih bs m b1 d1 k1 aD N aj;go_enter func50,ntmps50;go_upto_region 1 with fail;(try rw[r]);(try rw[I]);clear r I;by_cases hd0:0<dv
  .have aM:(0:Int)<(dv:Int):=by omega
   have bu:Hid (dv=Fv):=hid (by rcases ay.out with h|h<;>omega);clear hd0;go_wp2;go_ret;exact⟨by rw[be.out,bu.out]<;>rfl,a0.out,D,HD.out,aC.out⟩
  .have aM:¬(0:Int)<(dv:Int):=by omega
   clear hd0 ay;go_upto_region 5 with fail;clear z0;go_loopw [9,10,11] (fun s9 s10 s11 wr=>∃(i b:Nat) (D:List Nat),i<=ns.length/\b<=ns.length/\s11=.int .i64 i/\s10=.int .i64 b/\s9=.int .i64 (lwt ns v i:Nat)/\Hid (KB od Z wr/\DOk F ns.length D/\Blk wr od 3 (icells D)/\LBest ns F v i [] b)) (fun _ _ s11 _=>ns.length-(intOf s11).toNat)
   case atStart=>exact⟨0,0,D,by omega,by omega,rfl,rfl,rfl,hid ⟨KB.refl _ _,HD.out,aC.out,LBest.start⟩⟩
   case round=>
    obtain⟨i,b,D,hi,hb,rfl,rfl,rfl,l⟩:=hrel;obtain⟨g,a7⟩:∃g,g=wr:=⟨_,rfl⟩
    subst a7;have u:Hid (Blk g G 27 #[.slice A ns.length c,.int .i64 root]/\G+1<=g.heap.size/\KB od w g):=hid ⟨l.out.1.blk ax.out (by have:=s.out;omega),by have:=l.out.1.size;have:=bl.out;omega,a0.out.trans l.out.1⟩;have ab:Hid (LM g od A vs ns ra):=hid (HM.out.kb (by have:=s.out;omega) u.out.2.2);have g0:g.cell? ⟨G,0,none⟩=some (.slice A ns.length c):=u.out.1.cell 0;have ba:=zyg ns v i;have aa:=hid (ztr ns v i);obtain⟨wg,ag⟩:=ex (lwt ns v i)
    rw[ag]at ba aa;have bo:=hid ag;(try rw[ag]);clear ag;by_cases m:i<ns.length
    .have aL:(i:Int)<(ns.length:Int):=by omega
     obtain⟨ov,a6,rv,bv⟩:=ab.out.rch.row v T;obtain⟨oi,a5,ri,bi⟩:=ab.out.rch.row i m;obtain⟨p,hp⟩:=ex ((marks ns v).getD i false)
     obtain⟨q,X⟩:=ex ((marks ns i).getD v false)
     have y1:g.cell? ⟨ov,i,none⟩=some (.bool p):=by rw[bv.cell,zah (by rw[zbe HR.out T];exact m),hp]
     have y2:g.cell? ⟨oi,v,none⟩=some (.bool q):=by rw[bi.cell,zah (by rw[zbe HR.out m];exact T),X]
     have H:Hid (Gr.mt ns v i=(p && q)):=hid (by unfold Gr.mt mkd;rw[hp,X]);have hib:i<=1000:=by omega
     clear bv bi a6 a5 hp X;cases p with
     |false=>
      have M:Hid (LBest ns F v (i+1) [] b/\lwt ns v (i+1)=wg):=hid ⟨l.out.2.2.2.skip (by rw[H.out];rfl),by rw[aa.out,if_neg (by rw[H.out];simp)];rfl⟩;go_wp2;go_roundw
      case rel=>exact⟨i+1,b,D,by omega,hb,by go_num,rfl,by rw[M.out.2],hid ⟨l.out.1,l.out.2.1,l.out.2.2.1,M.out.1⟩⟩
      case measure=>simp[intOf];omega
     |true=>
      cases q with
      |false=>
       have M:Hid (LBest ns F v (i+1) [] b/\lwt ns v (i+1)=wg):=hid ⟨l.out.2.2.2.skip (by rw[H.out];rfl),by rw[aa.out,if_neg (by rw[H.out];simp)];rfl⟩;go_wp2;go_roundw
       case rel=>exact⟨i+1,b,D,by omega,hb,by go_num,rfl,by rw[M.out.2],hid ⟨l.out.1,l.out.2.1,l.out.2.2.1,M.out.1⟩⟩
       case measure=>simp[intOf];omega
      |true=>
       have bz:Hid (lwt ns v (i+1)=wg+1):=hid (by rw[aa.out,if_pos (by rw[H.out];rfl)]);have aN:Hid (Gr.mt ns v i=true):=hid H.out;obtain⟨ad,k,i2,rfl,O⟩:=ab.out.at_.node m;obtain⟨ka,kn,kc⟩:=k;obtain⟨Y,bk,ic⟩:=i2;have ao:ns[i]∈ns:=List.getElem_mem m;obtain⟨bh,aH⟩:=hks _ ao;have S:Hid (Gr.succ ns i=ns[i].keys++ns[i].items/\∀x∈ns[i].keys++ns[i].items,x<ns.length):=hid ⟨zdb m,HR.out _ ao⟩;obtain⟨n,hn⟩:=ex (ns[i])
       rw[hn]at O S bh aH;obtain rfl:kn=n.keys.length:=O.kn;obtain rfl:bk=n.items.length:=O.inn;have x0:=O.c0;have x1:=O.c1;have x2:=O.c2;have x3:=O.c3;have x4:=O.c4;have aF:Hid (RowAt intL g od ka n.keys/\RowAt intL g od Y n.items):=hid ⟨O.keys,O.items⟩;clear O hn ao;go_upto_region 10 with fail;obtain⟨a,al⟩:=ex (g.alloc (.cells #[.int .i64 n.kind,.string ⟨n.text.toArray⟩,.bool n.ord,.slice ka n.keys.length kc,.slice Y n.items.length ic] 40))
       obtain⟨V,ar⟩:=ex g.heap.size
       have d:Hid (Blk a V 40 #[.int .i64 n.kind,.string ⟨n.text.toArray⟩,.bool n.ord,.slice ka n.keys.length kc,.slice Y n.items.length ic]/\Below g.heap.size g a/\V<a.heap.size/\g.heap.size<=V):=hid (by rw[<-al,<-ar];exact⟨Blk.new _ _ _,(Below.refl _ _).alloc (Nat.le_refl _) _,by simp,Nat.le_refl _⟩);(try rw[al]);(try rw[ar]);have s3:a.cell? ⟨V,3,none⟩=some (.slice ka n.keys.length kc):=d.out.1.cell 3;have s4:a.cell? ⟨V,4,none⟩=some (.slice Y n.items.length ic):=d.out.1.cell 4;clear al ar x0 x1 x2 x3 x4 g0 y1 y2 rv ri;go_cut [13] (fun s13 wx=>∃A2 c2,s13=.slice A2 (n.keys.length+n.items.length) c2/\Hid (OwnRow intL wx a.heap.size 3 (.slice A2 (n.keys.length+n.items.length) c2) (n.keys++n.items)/\Below a.heap.size a wx))
       case first=>
        have s3a:(a.alloc (.cells #[] 3)).cell? ⟨V,3,none⟩=some (.slice ka n.keys.length kc):=(d.out.1.alloc _).cell 3;have s4a:(a.alloc (.cells #[] 3)).cell? ⟨V,4,none⟩=some (.slice Y n.items.length ic):=(d.out.1.alloc _).cell 4;have P:OwnRow intL (a.alloc (.cells #[] 3)).drew a.heap.size 3 (.slice (some ⟨a.heap.size,0,none⟩) ([]:List Nat).length 0) []:=zfk a;have B:od<=g.heap.size:=by have:=s.out;have:=u.out.2.1;omega
        have ak:Below od g (a.alloc (.cells #[] 3)).drew:=below_drewN ((d.out.2.1.mono B).alloc (Nat.le_trans B d.out.2.1.size) _) 1;have aO:RowAt intL (a.alloc (.cells #[] 3)).drew od ka n.keys:=aF.out.1.below ak;have ah:RowAt intL (a.alloc (.cells #[] 3)).drew od Y n.items:=aF.out.2.below ak;have L:Hid (a.heap.size<=(a.alloc (.cells #[] 3)).drew.heap.size/\od<=a.heap.size/\V<a.heap.size):=hid ⟨by simp,Nat.le_trans B d.out.2.1.size,d.out.1.lt⟩;have aX:Hid (Blk (a.alloc (.cells #[] 3)).drew V 40 #[.int .i64 n.kind,.string ⟨n.text.toArray⟩,.bool n.ord,.slice ka n.keys.length kc,.slice Y n.items.length ic]/\RowAt intL (a.alloc (.cells #[] 3)).drew od Y n.items):=hid ⟨d.out.1.alloc _,ah⟩;have bd:([]:List Nat).length+n.keys.length<=1073741824:=by simp;omega
        have bf:n.keys.length+n.items.length<=1073741824:=by omega
        have aq:=L.out.1;clear ak ah B;go_region_law (first
         | (refine zai _ rfl (.tmp 56) (.tmp 58) 38 3 8 rfl intT a.heap.size (.slice (some ⟨a.heap.size,0,none⟩) ([]:List Nat).length 0) [] rfl P _ _ kc n.keys rfl aO bd aq ?_;intro v1 Z o aA aR;rw[List.nil_append]at o;obtain⟨A8,c8,a9,_⟩:=o.form;subst a9;have Q:=P.grown_below aA aq;have s41:Z.cell? ⟨V,4,none⟩=some (.slice Y n.items.length ic):=(aX.out.1.below Q L.out.2.2).cell 4;have aQ:RowAt intL Z od Y n.items:=aX.out.2.below (Q.mono L.out.2.1);have r:a.heap.size<=Z.heap.size:=Nat.le_trans aq Q.size;have ax:=hid Q;clear aA aR Q)
         | (refine zai _ rfl (.tmp 59) (.tmp 61) 38 3 8 rfl intT a.heap.size (.slice A8 n.keys.length c8) n.keys rfl o _ _ ic n.items rfl aQ bf r ?_;intro v2 w2 t aY aU;obtain⟨A9,c9,a4,_⟩:=t.form;rw[List.length_append]at a4;subst a4;have bx:Hid (OwnRow intL w2 a.heap.size 3 (.slice A9 (n.keys.length+n.items.length) c9) (n.keys++n.items)/\Below a.heap.size a w2):=hid ⟨t,(below_drewN ((Below.refl _ _).alloc (Nat.le_refl _) _) 1).trans (ax.out.trans (o.grown_below aY r))⟩;clear t aY aU))
        all_goals
         go_wp2;go_meet;exact⟨A9,c9,rfl,bx⟩
       case rest=>
        obtain⟨A2,c2,rfl,HN⟩:=hcut;have bA:Hid (KB od g wc):=hid ((KB.of_below d.out.2.1).trans (KB.of_below HN.out.2));have aJ:Hid (od<a.heap.size/\a.heap.size<=wc.heap.size):=hid ⟨by have:=d.out;have:=s.out;have:=u.out;omega,HN.out.2.size⟩;have a8:Hid (Blk wc od 3 (icells D)):=hid (by
         have h1:=l.out.2.2.1.below d.out.2.1 l.out.2.2.1.lt;exact h1.below HN.out.2 h1.lt)
        have a1:Hid (OwnRow intL wc a.heap.size 3 (.slice A2 (n.keys.length+n.items.length) c2) (n.keys++n.items)):=hid HN.out.1;obtain⟨U,af⟩:=ex (n.keys++n.items)
        obtain⟨nl,R⟩:=ex (n.keys.length+n.items.length)
        have aW:U.length=nl:=by rw[<-af,<-R];simp
        have ae:=hid aW;have hnb:nl<=2000:=by omega
        rw[R,af]at a1;rw[af]at S;(try rw[R]);clear HN af s3 s4 aW;go_upto_region 12 with fail;go_loopw [10,14] (fun s10 s14 wr=>∃(j b:Nat) (D:List Nat),j<=nl/\b<=ns.length/\s14=.int .i64 j/\s10=.int .i64 b/\Hid (KB od wc wr/\DOk F ns.length D/\Blk wr od 3 (icells D)/\LBest ns F v i (U.take j) b)) (fun _ s14 _=>nl-(intOf s14).toNat)
        case atStart=>exact⟨0,b,D,by omega,hb,rfl,rfl,hid ⟨KB.refl _ _,l.out.2.1,a8.out,by simpa using l.out.2.2.2⟩⟩
        case round=>
         obtain⟨j,b,D,hj,hb,rfl,rfl,z⟩:=hrel;obtain⟨E,bp⟩:∃E,E=wr:=⟨_,rfl⟩
         subst bp;have am:Hid (KB od g E):=hid (bA.out.trans z.out.1);by_cases hlj:j<nl
         .have a2:(j:Int)<(nl:Int):=by omega
          have J:j<U.length:=by rw[ae.out];exact hlj
          obtain⟨y,hy⟩:=ex (U[j])
          have au:Hid (OwnRow intL E a.heap.size 3 (.slice A2 nl c2) U):=hid (zu2 a1.out z.out.1 aJ.out.1);obtain⟨aP,rfl,_,y0⟩:=zae (zd2 au.out).1 J;rw[hy]at y0;have ac:y<ns.length:=S.out.2 y (by rw[<-hy];exact List.getElem_mem J);have hyI:(y:Int)<(ns.length:Int):=by omega
          have bc:Hid (y∈Gr.succ ns i):=hid (by rw[S.out.1,<-hy];exact List.getElem_mem J);have az:Hid (U.take (j+1)=U.take j++[y]):=hid (by rw[List.take_succ_eq_append_getElem J,hy]);have aK:Hid (LM E od (some ad) vs ns ra):=hid (ab.out.kb (by have:=s.out;have:=u.out;omega) am.out);obtain⟨oy,bq,ry,bY⟩:=aK.out.rch.row y ac;obtain⟨q,X⟩:=ex ((marks ns y).getD v false)
          have y2:E.cell? ⟨oy,v,none⟩=some (.bool q):=by rw[bY.cell,zah (by rw[zbe HR.out ac];exact T),X]
          have ai:Hid (Blk E G 27 #[.slice (some ad) ns.length c,.int .i64 root]/\G<E.heap.size):=hid (by have h:=am.out.blk u.out.1 (by have:=s.out;omega);exact⟨h,h.lt⟩);have hjb:j<=2000:=by omega
          clear bY bq J hy;cases q with
          |true=>
           have K:Hid (LBest ns F v i (U.take (j+1)) b):=hid (by rw[az.out];exact z.out.2.2.2.old X);clear X;go_wp2;go_roundw
           case rel=>exact⟨j+1,b,D,by omega,hb,by go_num,rfl,hid ⟨z.out.1,z.out.2.1,z.out.2.2.1,K.out⟩⟩
           case measure=>simp[intOf];omega
          |false=>
           have bB:Hid (F y<F v):=hid (HF.out.lt HR.out T m aN.out bc.out X);have an:=hid (HF.out.le_n HR.out (F y) y (Nat.le_refl _) ac);have K:Hid (LBest ns F v i (U.take (j+1)) (max b (F y))):=hid (by rw[az.out];exact z.out.2.2.2.new X);have aT:Hid (∀W,Below E.heap.size E W->Calls prog 50 #[.agg #[.slice (some ad) ns.length c,.int .i64 root],.slice (some ra) ns.length cR,.slice (some ⟨od,0,none⟩) ns.length ns.length,.int .i64 y] W fun e w'=>e=.returned (.int .i64 (F y))/\KB od E w'/\∃D',DOk F ns.length D'/\Blk w' od 3 (icells D')):=hid (fun W hW=>
            (bw.out y D W bB.out ac (aK.out.kb (by have:=s.out;have:=ai.out.2;omega) (KB.of_below hW)) z.out.2.1 (z.out.2.2.1.below hW z.out.2.2.1.lt)).mono (fun _ _ ⟨e1,e2,e3⟩=>⟨e1,(KB.of_below hW).trans e2,e3⟩))
           obtain⟨fy,aB⟩:=ex (F y)
           rw[aB]at aT K an;have hfb:fy<=1000:=by have:=an.out;omega
           have hbb:b<=1000:=by omega
           have aG:Hid (max b fy<=ns.length):=hid (by have:=an.out;omega);obtain⟨mx,C⟩:=ex (max b fy)
           rw[C]at K aG;obtain⟨q0,q1⟩:=cells2 ai.out.1;have bg:Hid (∀W,KB od E W->W.cell? ⟨G,0,none⟩=some (.slice (some ad) ns.length c)/\W.cell? ⟨G,1,none⟩=some (.int .i64 root)/\W.cell? (aP.add j)=some (.int .i64 y)):=hid (fun W hW=>by
            have h:=hW.blk ai.out.1 (by have:=s.out;omega);refine⟨h.cell 0,h.cell 1,?_⟩;obtain⟨ad4,e4,_,y4⟩:=zae (zd2 (zu2 au.out hW aJ.out.1)).1 (show j<U.length by rw[ae.out];exact hlj);injection e4 with e4
            subst e4;rw[y4];obtain⟨ad5,e5,_,y5⟩:=zae (zd2 au.out).1 (show j<U.length by rw[ae.out];exact hlj);injection e5 with e5
            subst e5;rw[y0]at y5;exact y5.symm)
           clear X aB;go_upto_region 15 with fail;clear y2 ry;have av:((b:Int)<(fy:Int)/\mx=fy)\/(¬(b:Int)<(fy:Int)/\mx=b):=by omega
           clear C;rcases av with⟨aV,C⟩|⟨aV,C⟩
           all_goals
            have aE:=hid C;clear C;go_region_held3 (fun w'=>w'.cell? ⟨G,0,none⟩=some (.slice (some ad) ns.length c)/\w'.cell? ⟨G,1,none⟩=some (.int .i64 root)/\w'.cell? (aP.add j)=some (.int .i64 y))
             (first|go_keep|exact bg.out _ (by(first|assumption|exact KB.refl _ _|exact(KB.refl _ _).drewN 1|exact KB.drewN (by assumption) 1))) (first
             | (go_at_call 50;(with_reducible refine(aT.out _ ?_).mono ?_);(first|assumption|exact Below.refl _ _|exact(Below.refl _ _).drew|exact Below.drew (by assumption));rintro e1 a3 ⟨rfl,aS,D1,aZ,aI⟩))
            all_goals
             have H3:Hid (KB od E a3/\DOk F ns.length D1/\Blk a3 od 3 (icells D1)):=hid ⟨aS,aZ,aI⟩;clear aS aZ aI q0 q1 y0;go_wp2;go_roundw
             case rel=>exact⟨j+1,mx,D1,by omega,aG.out,by go_num,by(rw[aE.out];first|rfl| (congr 1;omega)),hid ⟨z.out.1.trans H3.out.1,H3.out.2.1,H3.out.2.2,K.out⟩⟩
             case measure=>simp[intOf];omega
         .have a2:¬(j:Int)<(nl:Int):=by omega
          have HE:Hid (LBest ns F v (i+1) [] b):=hid (z.out.2.2.2.next aN.out (by rw[S.out.1,List.take_of_length_le (by rw[ae.out];omega)]));go_wp2;go_roundw
          case rel=>exact⟨i+1,b,D,by omega,hb,by go_num,rfl,by rw[bz.out];go_num,hid ⟨l.out.1.trans am.out,z.out.2.1,z.out.2.2.1,HE.out⟩⟩
          case measure=>simp[intOf];omega
    .have aL:¬(i:Int)<(ns.length:Int):=by omega
     have ap:Hid (wg+b=Fv):=hid (by
      obtain rfl:i=ns.length:=by omega
      have:=l.out.2.2.2.last HR.out T HF.out;rw[bo.out,aw.out]at this;exact this)
     have hsb:wg+b<=1000:=by rw[ap.out];omega
     have zf:∀k,g.frozen? ⟨od,k,none⟩=false:=l.out.2.2.1.frozen;have z0:g.cell? ⟨od,v,none⟩=some (.int .i64 ((D.getD v 0:Nat):Int)):=by rw[l.out.2.2.1.cell,zad (by rw[l.out.2.1.1];exact T)]
     have bn:Hid (DOk F ns.length (D.set v (F v))):=hid (l.out.2.1.set v);have bt:Hid (KB od w g):=hid u.out.2.2;have bm:Hid (Blk (g.setCell ⟨od,v,none⟩ (.int .i64 ((wg:Int)+(b:Int)))) od 3 (icells (D.set v (F v)))):=hid (by
      have h1:=l.out.2.2.1.set_ v (.int .i64 ((wg:Int)+(b:Int)));have e:(wg:Int)+(b:Int)=((F v:Nat):Int):=by rw[aw.out,<-ap.out];omega
      rw[e,zav]at h1;rw[e];exact h1)
     have bb:Hid (Value.int .i64 ((wg:Int)+(b:Int))=.int .i64 (F v:Int)):=hid (by rw[aw.out,<-ap.out];congr 1);go_wp2;go_ret;exact⟨by rw[<-bb.out]<;>rfl,bt.out.set _ _,D.set v (F v),bn.out,bm.out⟩
def slL:Lay SV:={enc:=fun x=>[x.v],sz:=1,len:=fun _=>rfl,one:=fun x u hu=>by simp at hu;subst hu;rfl,pos:=by omega}
theorem slT:SliceT prog slL 79 54 24:=zbq slL 79 54 (.slice none 0 0) 24 underlying79 (by kernel_rfl) rfl (by omega)
structure RD (w wr:World) (gc:Array Value) (v:Value) (R:List SV) (ns:List Gr.Nd):Prop where
 below:Below w.heap.size w wr
 gbox:Blk wr w.heap.size 27 gc
 own:OwnRow slL wr (w.heap.size+1) 54 v R
 hd:w.heap.size+1<=wr.heap.size
 rows:∀j (hj:j<R.length),∃ob,R[j]=⟨some ⟨ob,0,none⟩,ns.length,ns.length⟩/\Blk wr ob 4 (bcells (marks ns j))
theorem zu3 {w:World} {base:Nat} {v:Value} {R:List SV} {k:Nat} {cs:Array Value} (h:OwnRow slL w base 54 v R) (hb:Blk w k 4 cs):some k≠v.ownBlock:=by
 rcases h.2 with⟨rfl,_⟩|⟨g,cap,cur,rfl,_,a,_⟩
 .exact fun e=>by cases e
 .intro e;have e:some k=some g:=e;injection e with e
  subst e;have hb:w.heap[k]? =some (.cells cs 4 (0,0)):=hb;rw[hb]at a;injection a with a
  injection a with _ a _
  exact absurd a (by decide)
section
variable {w wr w2:World} {gc:Array Value} {v v':Value} {R:List SV} {ns:List Gr.Nd} {A:Option Addr} {c:Nat}
theorem RD.later (h:RD w wr gc v R ns) (hb:Below wr.heap.size wr w2):RD w w2 gc v R ns:=
 ⟨h.below.trans (hb.mono h.below.size),h.gbox.below hb h.gbox.lt,h.own.later hb,Nat.le_trans h.hd hb.size,fun j d=>by
  obtain⟨e,b,a⟩:=h.rows j d;exact⟨e,b,a.below hb a.lt⟩⟩
theorem RD.alloc (h:RD w wr gc v R ns) (o:Obj):RD w (wr.alloc o) gc v R ns:=h.later ((Below.refl _ _).alloc (Nat.le_refl _) _)
theorem RD.grown (h:RD w wr gc v R ns) {ob:Nat} (hob:Blk wr ob 4 (bcells (marks ns R.length))) (ho:OwnRow slL w2 (w.heap.size+1) 54 v' (R++[⟨some ⟨ob,0,none⟩,ns.length,ns.length⟩])) (hg:wr.grownBy w2 v.ownBlock):RD w w2 gc v' (R++[⟨some ⟨ob,0,none⟩,ns.length,ns.length⟩]) ns:=
 ⟨h.below.trans ((h.own.grown_below hg h.hd).mono (by omega)),h.gbox.grown hg (fun e=>absurd (h.own.lt _ e.symm).1 (by omega)),ho,Nat.le_trans h.hd (h.own.grown_below hg h.hd).size,fun j g=>by
  by_cases hjl:j<R.length
  .obtain⟨b,f,d⟩:=h.rows j hjl;exact⟨b,by rw[List.getElem_append_left hjl];exact f,d.grown hg (zu3 h.own d)⟩
  .have a:j=R.length:=by simp at g;omega
   subst a;exact⟨ob,by rw[List.getElem_concat_length rfl],hob.grown hg (zu3 h.own hob)⟩⟩
theorem RD.rch (h:RD w wr gc (.slice A R.length c) R ns) (hl:R.length=ns.length) (hn:0<ns.length):∃ra,A=some ra/\RchAt wr wr.heap.size ra ns:=by
 obtain⟨A',c',e,b⟩:=h.own.form;injection e with e1 _ e2
 subst e1;obtain⟨ra,d,g,_⟩:=b.get (k:=0) (by omega);refine⟨ra,d,g,fun v hv=>?_⟩;obtain⟨j,i,f⟩:=h.rows v (by omega);obtain⟨ra2,a,h6,l,_⟩:=b.get (k:=v) (by omega);rw[d]at a;injection a with a
 subst a;refine⟨j,f.lt,?_,f⟩;have:=l (R[v].v) rfl;rw[show v*slL.sz=v from Nat.mul_one v,i]at this;exact this
end
namespace Gr
def treeI (ns:List Nd) (u k:Nat):Bool:=(((ns[u]?.map Nd.items).getD []).take k).all (fun x=>!(mkd (marks ns x) u))
def treeN (ns:List Nd) (i:Nat):Bool:=(List.range i).all (fun u=>((ns[u]?.map Nd.items).getD []).all (fun x=>!(mkd (marks ns x) u)))
theorem znp (ns:List Nd) (u:Nat):treeI ns u 0=true:=by unfold treeI;simp
theorem znq {ns:List Nd} {u k:Nat} (hu:u<ns.length) (hk:k<ns[u].items.length):treeI ns u (k+1)=(treeI ns u k && !(mkd (marks ns ns[u].items[k]) u)):=by
 unfold treeI;rw[List.getElem?_eq_getElem hu];simp only[Option.map_some,Option.getD_some];rw[List.take_succ_eq_append_getElem hk,List.all_append];simp
theorem znr {ns:List Nd} {i k:Nat} (hi:i<ns.length) (hk:ns[i].items.length<=k):treeN ns (i+1)=(treeN ns i && treeI ns i k):=by
 unfold treeN treeI;rw[List.range_succ,List.all_append];simp only[List.all_cons,List.all_nil,Bool.and_true];rw[List.getElem?_eq_getElem hi];simp only[Option.map_some,Option.getD_some];rw[List.take_of_length_le hk]
end Gr
theorem zns (A:Option Addr) (c:Nat) (r:Nat) (vs:List NV) (ns:List Gr.Nd) (hw:WellF ns r) (hnl:ns.length<=1000) (hks:∀n∈ns,n.keys.length<=1000/\n.items.length<=1000) (w:World) (h:GAt w w.heap.size A vs ns):
 Calls prog 33 #[.agg #[.slice A ns.length c,.int .i64 r]] w fun e w'=>e=.returned (.tuple #[.int .i64 (depth ns r).1,.bool (depth ns r).2])/\Below w.heap.size w w':=by
 have H:=hid h;obtain⟨F,hF,ae,O⟩:=hw.depth;have HW:=hid hw;have HF:=hid hF;have aw:=hid ae;have az:=hid O;have ar:=hw.root;have T:=hF.le_n hw.refs (F r) r (Nat.le_refl _) hw.root;obtain⟨gc,C⟩:∃gc:Array Value,#[.slice A ns.length c,.int .i64 r]=gc:=⟨_,rfl⟩
 have o:Hid (gc[0]? =some (.slice A ns.length c)/\gc[1]? =some (.int .i64 r)):=hid (by rw[<-C];exact⟨rfl,rfl⟩);obtain⟨w1,G⟩:=ex (w.alloc (.cells #[.slice A ns.length c,.int .i64 r] 27))
 have aB:Hid (RD w w1 gc (.slice none 0 0) [] ns):=hid (by rw[<-G,<-C];exact⟨(Below.refl _ _).alloc (Nat.le_refl _) _,Blk.new _ _ _,OwnRow.nil,by simp,fun j s=>by simp at s⟩);have ax:=hid (fun a ha W p=>zd3 A c a (r:Int) vs ns hw.refs hnl hks ha W p);clear h C hw hF ae O;go_enter func33,ntmps33;go_upto_region 3 with fail;(try rw[G]);clear G;go_loopw [4,5] (fun s4 s5 wr=>∃(i:Nat) (R:List SV) (AL:Option Addr) (cL:Nat),i<=ns.length/\R.length<=ns.length/\s5=.int .i64 i/\s4=.slice AL R.length cL/\Hid (RD w wr gc (.slice AL R.length cL) R ns/\R.length=i)) (fun _ s5 _=>ns.length-(intOf s5).toNat)
 case atStart=>exact⟨0,[],none,0,by omega,by simp,rfl,rfl,hid ⟨aB.out,rfl⟩⟩
 case round=>
  obtain⟨i,R,AL,cL,hi,hRl,rfl,rfl,d⟩:=hrel;obtain⟨b,av⟩:∃b,b=wr:=⟨_,rfl⟩
  subst av;have g0:b.cell? ⟨w.heap.size,0,none⟩=some (.slice A ns.length c):=by rw[d.out.1.gbox.cell];exact o.out.1
  have g1:b.cell? ⟨w.heap.size,1,none⟩=some (.int .i64 r):=by rw[d.out.1.gbox.cell];exact o.out.2
  have hib:i<=1000:=by omega
  by_cases hlt:i<ns.length
  .have M:(i:Int)<(ns.length:Int):=by omega
   have HC:=hid (ax.out i hlt b ((H.out.below d.out.1.below).more d.out.1.below.size));go_wp2_with fail;refine HC.out.mono ?_;rintro e w2 ⟨J,rfl,aD,E,V⟩;have f:Hid (RD w w2 gc (.slice AL R.length cL) R ns/\Blk w2 J 4 (bcells (marks ns i))/\w.heap.size+1<=w2.heap.size):=hid ⟨d.out.1.later E,V,Nat.le_trans d.out.1.hd E.size⟩;clear aD E V g0 g1;go_wp2_with (at_builtin;go_must (refine zaa _ rfl (.tmp 16) (.tmp 20) 79 54 24 rfl slT (w.heap.size+1) (.slice AL R.length cL) R rfl (f.out.1.own.alloc _) _ _ 1 ([⟨some ⟨J,0,none⟩,ns.length,ns.length⟩]:List SV) rfl (RowAt.lit1 _ _ rfl _ ?_) ?_ ?_ ?_))
   any_goals (first|rfl| (have:=f.out.2.2;omega)| (have:=f.out.2.2;simp;omega)| (rw[World.size_alloc];have:=f.out.2.2;omega))
   intro v' w5 g hg ap;have I:Hid (RD w w5 gc v' (R++([⟨some ⟨J,0,none⟩,ns.length,ns.length⟩]:List SV)) ns/\(R++([⟨some ⟨J,0,none⟩,ns.length,ns.length⟩]:List SV)).length=i+1):=hid ⟨(f.out.1.alloc _).grown (by rw[d.out.2];exact f.out.2.1.alloc _) g hg,by simp[d.out.2]⟩;obtain⟨A5,c5,ag,_⟩:=g.form;obtain⟨R5,Y⟩:=ex (R++([⟨some ⟨J,0,none⟩,ns.length,ns.length⟩]:List SV))
   rw[Y]at I ag;subst ag;clear g hg ap Y;go_wp2;go_roundw
   case rel=>exact⟨i+1,R5,A5,c5,by omega,by rw[I.out.2];omega,by go_num,rfl,I⟩
   case measure=>simp[intOf];omega
  .have M:¬(i:Int)<(ns.length:Int):=by omega
   obtain⟨ra,rfl,aj⟩:=d.out.1.rch (by rw[d.out.2];omega) (by omega);have af:=hid aj;have al:Hid (R.length=ns.length):=hid (by rw[d.out.2];omega);obtain⟨rl,l⟩:=ex R.length
   have hrlI:(ns.length:Int)<=(rl:Int):=by have:=al.out;omega
   have S:Hid (rl=ns.length):=hid (by rw[<-l];exact al.out);have Q:Hid (Below w.heap.size w b):=hid d.out.1.below;have ab:=hid ((H.out.below d.out.1.below).more d.out.1.below.size);(try rw[l]);clear aj l;go_upto_region 8 with fail;go_loop [6,7] (fun s6 s7=>∃k:Nat,k<=ns.length/\s7=.int .i64 k/\s6=.bool (treeN ns k)) (fun _ s7=>ns.length-(intOf s7).toNat)
   case atStart=>exact⟨0,by omega,rfl,rfl⟩
   case round=>
    obtain⟨k,hk,rfl,rfl⟩:=hrel;by_cases hlk:k<ns.length
    .have aa:(k:Int)<(ns.length:Int):=by omega
     have B:ns[k]∈ns:=List.getElem_mem hlk;obtain⟨am,aE⟩:=hks _ B;have u:=hid (HW.out.refs _ B);have ac:Hid (∀j (s:j<ns[k].items.length),treeI ns k (j+1)=(treeI ns k j && !(mkd (marks ns ns[k].items[j]) k))):=hid (fun j s=>znq hlk s);have ak:Hid (∀j,ns[k].items.length<=j->treeN ns (k+1)=(treeN ns k && treeI ns k j)):=hid (fun j s=>znr hlk s);obtain⟨ad,ks,aq,rfl,U⟩:=ab.out.node hlk;obtain⟨ka,kn,kc⟩:=ks;obtain⟨ia,ao,ic⟩:=aq;obtain⟨n,hn⟩:=ex (ns[k])
     rw[hn]at U aE u;have ai:Hid (∀j (s:j<n.items.length),treeI ns k (j+1)=(treeI ns k j && !(mkd (marks ns n.items[j]) k))):=hid (by subst hn;exact ac.out);have t:Hid (∀j,n.items.length<=j->treeN ns (k+1)=(treeN ns k && treeI ns k j)):=hid (by subst hn;exact ak.out);obtain rfl:ao=n.items.length:=U.inn;have x4:=U.c4;have aA:Hid (RowAt intL b b.heap.size ia n.items):=hid U.items;obtain⟨tn,D⟩:=ex (treeN ns k)
     (try rw[D]);rw[D]at t;have hkb:k<=1000:=by omega
     clear U hn B am D ac ak;go_upto_region 11 with fail;go_loop [6,8] (fun s6 s8=>∃j:Nat,j<=n.items.length/\s8=.int .i64 j/\s6=.bool (tn && treeI ns k j)) (fun _ s8=>n.items.length-(intOf s8).toNat)
     case atStart=>exact⟨0,by omega,rfl,by rw[znp,Bool.and_true]⟩
     case round=>
      obtain⟨j,s,rfl,rfl⟩:=hrel;obtain⟨tb,z⟩:=ex (tn && treeI ns k j)
      (try rw[z]);have N:=hid z;clear z;by_cases hlj:j<n.items.length
      .have ah:(j:Int)<(n.items.length:Int):=by omega
       obtain⟨y,hy⟩:=ex (n.items[j])
       obtain⟨adi,rfl,_,y0⟩:=zae aA.out hlj;rw[hy]at y0;have P:y<ns.length:=u.out y (List.mem_append_right _ (by rw[<-hy];exact List.getElem_mem hlj));have hyI:(y:Int)<(rl:Int):=by omega
       obtain⟨oy,ay,ry,bY⟩:=af.out.row y P;obtain⟨q,hq⟩:=ex ((marks ns y).getD k false)
       have y2:b.cell? ⟨oy,k,none⟩=some (.bool q):=by rw[bY.cell,zah (by rw[zbe HW.out.refs P];exact hlk),hq]
       have X:Hid ((tn && treeI ns k (j+1))=(tb && !q)):=hid (by rw[ai.out j hlj,<-Bool.and_assoc,N.out,hy];unfold mkd;rw[hq]);have hjb:j<=1000:=by omega
       clear bY ay hy hq;cases tb with
       |false=>
        go_wp2;go_round
        case rel=>exact⟨j+1,by omega,by go_num,by rw[X.out];rfl⟩
        case measure=>simp[intOf];omega
       |true=>
        go_wp2;go_round
        case rel=>exact⟨j+1,by omega,by go_num,by rw[X.out];rfl⟩
        case measure=>simp[intOf];omega
      .have ah:¬(j:Int)<(n.items.length:Int):=by omega
       have HE:Hid (treeN ns (k+1)=tb):=hid (by rw[t.out j (by omega),N.out]);go_wp2;go_round
       case rel=>exact⟨k+1,by omega,by go_num,by rw[HE.out]⟩
       case measure=>simp[intOf];omega
    .have aa:¬(k:Int)<(ns.length:Int):=by omega
     have L:Hid (treeN ns k=(depth ns r).2):=hid (by
      obtain rfl:k=ns.length:=by omega
      rw[az.out];rfl)
     obtain⟨tr,K⟩:=ex (treeN ns k)
     (try rw[K]);rw[K]at L;obtain⟨fr,m⟩:=ex (F r)
     have an:Hid ((depth ns r).1=(fr:Int)-1):=hid (by rw[aw.out,m]);have Z:Hid (fr<=ns.length):=hid (by rw[<-m];exact T);have hmk:=zb1 ns.length (by omega);have au:Hid (∀W od,Below b.heap.size b W->b.heap.size<=od->Blk W od 3 (icells (List.replicate ns.length 0))->Calls prog 50 #[.agg #[.slice A ns.length c,.int .i64 r],.slice (some ra) rl cL,.slice (some ⟨od,0,none⟩) ns.length ns.length,.int .i64 r] W fun e w'=>e=.returned (.int .i64 fr)/\Below b.heap.size b w'):=hid (fun W od p x hB=>by
      rw[S.out];refine(zi8 A c cL od (r:Int) vs ns ra F HW.out.refs HF.out hnl hks (F r+1) r (List.replicate ns.length 0) W (by omega) ar ⟨(ab.out.below p).more x,?_⟩ (DOk.zero F ns.length) hB).mono ?_
      .have:=af.out.below p;exact⟨Nat.lt_of_lt_of_le this.lt x,fun v hv=>by
        obtain⟨J,h1,h2⟩:=this.row v hv;exact⟨J,by omega,h2⟩⟩
      .rintro e w' ⟨h1,h2,_⟩;exact⟨by rw[h1,m],p.trans (h2.below x p.size)⟩)
     have hfb:fr<=1000:=by have:=Z.out;omega
     clear m K hlk hk T;go_upto_region 14 with fail;have aF:Hid (∀W,Below b.heap.size b W->W.cell? ⟨w.heap.size,0,none⟩=some (.slice A ns.length c)/\W.cell? ⟨w.heap.size,1,none⟩=some (.int .i64 r)):=hid (fun W p=>by
      have:=d.out.1.gbox.below p d.out.1.gbox.lt;exact⟨by rw[this.cell];exact o.out.1,by rw[this.cell];exact o.out.2⟩)
     go_cut [2,3] (fun s2 s3 wx=>s2=.int .i64 ((fr:Int)-1)/\s3=.bool tr/\Hid (Below b.heap.size b wx))
     case first=>
      go_region_held3 (fun w'=>w'.cell? ⟨w.heap.size,0,none⟩=some (.slice A ns.length c)/\w'.cell? ⟨w.heap.size,1,none⟩=some (.int .i64 r))
       (first|go_keep|exact aF.out _ (by(first|assumption|exact Below.refl _ _|exact(Below.refl _ _).drew|exact Below.drew (by assumption)))) (first
       | (go_at_call 50;(with_reducible refine(au.out _ _ ?_ ?_ ?_).mono ?_);exact((Below.refl _ _).alloc (Nat.le_refl _) _).drew;exact Nat.le_refl _;exact Blk.new _ _ _;rintro e1 wc1 ⟨rfl,aC⟩))
      all_goals
       go_wp2;go_meet
      exact⟨by rw[IntWalk.i64_in _ (by omega)],rfl,hid aC⟩
     case rest=>
      obtain⟨rfl,rfl,HX⟩:=hcut;go_wp2;go_ret2;exact⟨by rw[an.out,L.out]<;>rfl,Q.out.trans (HX.out.mono Q.out.size)⟩
end Go.Proofs.YtpjmhafmeieloabGreatDoor

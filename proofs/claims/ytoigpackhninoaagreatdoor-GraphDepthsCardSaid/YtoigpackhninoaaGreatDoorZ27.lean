import Derived.Test.YtoigpackhninoaaGreatDoorZ13
import Derived.Test.YtoigpackhninoaaGreatDoorZ28
namespace Go.Proofs.YtoigpackhninoaaGreatDoor
open Gr
open _root_.Go.Proofs.Tryz
open _root_.Go.Lib (hid)
set_option maxRecDepth 100000
set_option maxHeartbeats 16000000
open Go.RowKit
theorem zpn (A:Option Addr) (c:Nat) (root:Int) (vs:List NV) (is:List Gr.Ni) (hz:Sz is) (w:World) (h:IAt w w.heap.size A vs is):
 Calls prog 12 #[.agg #[.slice A is.length c,.int .i64 root]] w fun e w'=>e=.returned (.bool (Gr.few is))/\Below w.heap.size w w':=by
 have H:=hid h;have HZ:=hid hz;obtain⟨w1,hw1⟩:=ex (w.alloc (.cells #[.slice A is.length c,.int .i64 root] 24))
 have b1:Blk w1 w.heap.size 24 #[.slice A is.length c,.int .i64 root]:=by rw[<-hw1];exact Blk.new _ _ _
 have L1:Hid (Below w.heap.size w w1):=hid (by rw[<-hw1];exact(Below.refl _ _).alloc (Nat.le_refl _) _);have g0:w1.cell? ⟨w.heap.size,0,none⟩=some (.slice A is.length c):=b1.cell 0;have HB1:=hid b1;have hlz:=hz.1;clear h b1 hz;go_enter func12,ntmps12;go_upto_region 1 with fail;(try rw[hw1]);clear hw1;by_cases h40:is.length<=40
 ·have h40I:¬(40:Int)<(is.length:Int):=by omega
  go_upto_region 5 with fail;clear g0 hlz;go_loopw [3,4,5] (fun s3 s4 s5 wr=>∃i:Nat,i<=is.length/\s5=.int .i64 i/\s3=.int .i64 (fsum is i:Nat)/\s4=.int .i64 (fbyt is i:Nat)/\fsum is i<=160*i/\fbyt is i<=100*i/\Hid (Below w1.heap.size w1 wr/\∀j,j<i->∀(hj:j<is.length),is[j].text.length<=100/\is[j].keys.length<=80/\is[j].items.length<=80)) (fun _ _ s5 _=>is.length-(intOf s5).toNat)
  case atStart=>exact⟨0,by omega,rfl,rfl,rfl,by simp[fsum],by simp[fbyt],hid ⟨Below.refl _ _,fun j hj=>by omega⟩⟩
  case round=>
   obtain⟨i,hi,rfl,rfl,rfl,hs1,hs2,HI⟩:=hrel;have HBW:Hid (Below w.heap.size w wr):=hid (L1.out.trans (HI.out.1.mono L1.out.size));have HBB:Hid (Blk wr w.heap.size 24 #[.slice A is.length c,.int .i64 root]):=hid (HB1.out.below HI.out.1 HB1.out.lt);have g0:wr.cell? ⟨w.heap.size,0,none⟩=some (.slice A is.length c):=HBB.out.cell 0;have HSS:=hid (fun h=>zpl (is:=is) (k:=i) h);have HSB:=hid (fun h=>zpm (is:=is) (k:=i) h);obtain⟨fs,hfs⟩:=ex (fsum is i)
   obtain⟨fb,hfb⟩:=ex (fbyt is i)
   rw[hfs]at hs1 HSS;rw[hfb]at hs2 HSB;have HFS:=hid hfs;have HFB:=hid hfb;(try rw[hfs]);(try rw[hfb]);clear hfs hfb;by_cases hlt:i<is.length
   ·have hltI:(i:Int)<(is.length:Int):=by omega
    have hnm:is[i]∈is:=List.getElem_mem hlt;obtain⟨hzt,hzk,hzi⟩:=HZ.out.2 _ hnm;have HNO:=hid (zvk hlt);have HYES:Hid ((is[i].text.length<=100/\is[i].keys.length<=80/\is[i].items.length<=80)->∀j,j<i+1->∀(hj:j<is.length),is[j].text.length<=100/\is[j].keys.length<=80/\is[j].items.length<=80):=hid (fun h j hj hj2=>by
     rcases Nat.lt_or_ge j i with h1|h1
     ·exact HI.out.2 j h1 hj2
     ·obtain rfl:j=i:=by omega
      exact h)
    have HS1:=hid (HSS.out hlt);have HS2:=hid (HSB.out hlt);obtain⟨ad,ks,its,rfl,hadb,c0,c1,c2,c3,c4,r1,r2,r3,r4⟩:=(H.out.below HBW.out).node hlt;obtain⟨ka,kn,kc⟩:=ks;obtain⟨ia,inn,ic⟩:=its;obtain⟨n,hn⟩:=ex (is[i])
    rw[hn]at c0 c1 c2 r2 r4 hzt hzk hzi HNO HYES HS1 HS2;obtain rfl:kn=n.keys.length:=r2;obtain rfl:inn=n.items.length:=r4;have hib:i<=40:=by omega
    clear hn hnm r1 r3 hadb HSS HSB;go_upto_region 8 with fail;obtain⟨we,hwe⟩:=ex (wr.alloc (.cells #[.int .i64 n.kind,.string ⟨n.text.toArray⟩,.bool n.ord,.slice ka n.keys.length kc,.slice ia n.items.length ic] 35))
    obtain⟨g8,hg8⟩:=ex wr.heap.size
    have HG8:Hid (Blk we g8 35 #[.int .i64 n.kind,.string ⟨n.text.toArray⟩,.bool n.ord,.slice ka n.keys.length kc,.slice ia n.items.length ic]/\Below wr.heap.size wr we):=hid (by rw[<-hwe,<-hg8];exact⟨Blk.new _ _ _,(Below.refl _ _).alloc (Nat.le_refl _) _⟩);(try rw[hwe]);(try rw[hg8]);have s1:we.cell? ⟨g8,1,none⟩=some (.string ⟨n.text.toArray⟩):=HG8.out.1.cell 1;have s3:we.cell? ⟨g8,3,none⟩=some (.slice ka n.keys.length kc):=HG8.out.1.cell 3;have s4:we.cell? ⟨g8,4,none⟩=some (.slice ia n.items.length ic):=HG8.out.1.cell 4;have HBE:Hid (Below w1.heap.size w1 we/\Below w.heap.size w we):=hid ⟨HI.out.1.trans (HG8.out.2.mono HI.out.1.size),HBW.out.trans (HG8.out.2.mono HBW.out.size)⟩;clear hwe hg8 c0 c1 c2 c3 c4 g0;have h1c:(100:Int)<(n.text.length:Int)\/¬(100:Int)<(n.text.length:Int):=by omega
    have h2c:(80:Int)<(n.keys.length:Int)\/¬(80:Int)<(n.keys.length:Int):=by omega
    have h3c:(80:Int)<(n.items.length:Int)\/¬(80:Int)<(n.items.length:Int):=by omega
    rcases h1c with h1|h1
    ·have HF:Hid (Gr.few is=false):=hid (HNO.out (by omega));clear h2c h3c;go_wp2;go_ret;exact⟨by rw[HF.out]<;>rfl,HBE.out.2⟩
    ·rcases h2c with h2|h2
     ·have HF:Hid (Gr.few is=false):=hid (HNO.out (by omega));clear h3c;go_wp2;go_ret;exact⟨by rw[HF.out]<;>rfl,HBE.out.2⟩
     ·rcases h3c with h3|h3
      ·have HF:Hid (Gr.few is=false):=hid (HNO.out (by omega));go_wp2;go_ret;exact⟨by rw[HF.out]<;>rfl,HBE.out.2⟩
      ·have HNX:Hid (fsum is (i+1)<=160*(i+1)/\fbyt is (i+1)<=100*(i+1)):=hid (by rw[HS1.out,HS2.out];omega);have HYY:=hid (HYES.out (by omega));go_wp2;go_roundw
       case rel=>exact⟨i+1,by omega,by go_num,by rw[HS1.out];go_num,by rw[HS2.out];go_num,HNX.out.1,HNX.out.2,hid ⟨HBE.out.1,HYY.out⟩⟩
       case measure=>simp[intOf];omega
   ·have hltI:¬(i:Int)<(is.length:Int):=by omega
    have HE:Hid (Gr.few is=(decide (fs<=240) && decide (fb<=300))):=hid (by
     have:=zvl (k:=i) (by omega) h40 HI.out.2;rwa[HFS.out,HFB.out]at this)
    have h1c:(fs:Int)<=240\/¬(fs:Int)<=240:=by omega
    have h2c:(fb:Int)<=300\/¬(fb:Int)<=300:=by omega
    rcases h1c with h1|h1
    ·rcases h2c with h2|h2
     ·have HF:Hid (Gr.few is=true):=hid (by rw[HE.out,decide_eq_true (by omega),decide_eq_true (by omega)];rfl);go_wp2;go_ret;exact⟨by rw[HF.out]<;>rfl,HBW.out⟩
     ·have HF:Hid (Gr.few is=false):=hid (by rw[HE.out,decide_eq_false (p:=fb<=300) (by omega)];simp);go_wp2;go_ret;exact⟨by rw[HF.out]<;>rfl,HBW.out⟩
    ·have HF:Hid (Gr.few is=false):=hid (by rw[HE.out,decide_eq_false (p:=fs<=240) (by omega)];simp);clear h2c;go_wp2;go_ret;exact⟨by rw[HF.out]<;>rfl,HBW.out⟩
 ·have h40I:(40:Int)<(is.length:Int):=by omega
  have HF:Hid (Gr.few is=false):=hid (zvj h40);go_wp2;go_ret;exact⟨by rw[HF.out]<;>rfl,L1.out⟩
namespace Gr
theorem znp {α:Type} (p q r:α->Bool) (l:List α) (h:∀x∈l,(p x=true->r x=true)/\(q x=true->r x=true)/\¬(p x=true/\q x=true)):l.countP p+l.countP q<=l.countP r:=by
 induction l with
 |nil=>simp
 |cons x l ih=>
  have h1:=ih (fun y hy=>h y (.tail _ hy));obtain⟨a,b,c⟩:=h x (.head _);rw[List.countP_cons,List.countP_cons,List.countP_cons];cases hp:p x<;>cases hq:q x<;>cases hr:r x<;>simp[hp,hq,hr]at a b c ⊢<;>omega
theorem LongR.le_n {ns:List Nd} {F:Nat->Nat} (hr:Refs ns) (hF:LongR (succ ns) ns.length F):∀(k v:Nat),F v<=k->v<ns.length->F v<=ns.length:=by
 classical
 have key:∀(k v:Nat),F v<=k->v<ns.length->F v<=(List.range ns.length).countP (fun i=>decide (Reach (succ ns) v i)):=by
  intro k
  induction k with
  |zero=>intro v h _;omega
  |succ k ih=>
   intro v h hv;rcases hF.att v hv with h1|⟨u,hu,h2,h3,x,hx,hn,h4⟩
   ·rw[h1];unfold wt;apply List.countP_mono_left;intro i _ hi;have:=of_decide_eq_true hi;exact decide_eq_true this.1
   ·have hxl:=hr.succ u x hx;have hp:=zk2 (succ ns) ns.length v hv;have h5:=ih x (by omega) hxl;rw[h4];refine Nat.le_trans (Nat.add_le_add_left h5 _) ?_;unfold wt;refine znp _ _ _ _ (fun i _=>⟨fun hi=>?_,fun hi=>?_,?_⟩)
    ·exact decide_eq_true (of_decide_eq_true hi).1
    ·exact decide_eq_true (h2.trans ((Reach.one hx).trans (of_decide_eq_true hi)))
    ·rintro⟨a,b⟩;exact hn ((of_decide_eq_true b).trans (of_decide_eq_true a).2)
 intro k v h hv;exact Nat.le_trans (key k v h hv) (Nat.le_trans List.countP_le_length (by simp))
end Gr
structure RchAt (w:World) (od:Nat) (ra:Addr) (ns:List Gr.Nd):Prop where
 lt:ra.block<od
 row:∀v,v<ns.length->∃ob,ob<od/\w.cell? (ra.add v)=some (.slice (some ⟨ob,0,none⟩) ns.length ns.length)/\Blk w ob 4 (bcells (marks ns v))
theorem RchAt.below {w w':World} {od:Nat} {ra:Addr} {ns:List Gr.Nd} (h:RchAt w od ra ns) (hb:Below od w w'):RchAt w' od ra ns:=
 ⟨h.lt,fun v hv=>by
  obtain⟨ob,h1,h2,h3⟩:=h.row v hv;exact⟨ob,h1,(hb.cell (by rw[zbd];exact h.lt)).trans h2,h3.below hb h1⟩⟩
def DOk (F:Nat->Nat) (n:Nat) (D:List Nat):Prop:=D.length=n/\∀v,v<n->D.getD v 0=0\/D.getD v 0=F v
theorem DOk.set {F:Nat->Nat} {n:Nat} {D:List Nat} (h:DOk F n D) (v:Nat):DOk F n (D.set v (F v)):=by
 refine⟨by rw[List.length_set];exact h.1,fun u hu=>?_⟩;by_cases he:v=u
 ·subst he;right;exact za1 _ _ _ _ (by rw[h.1];exact hu)
 ·rw[Gr.getD_set_ne _ _ _ _ _ he];exact h.2 u hu
theorem DOk.zero (F:Nat->Nat) (n:Nat):DOk F n (List.replicate n 0):=⟨by simp,fun v hv=>.inl (by simp[List.getD_eq_getElem?_getD,hv])⟩
structure LM (w:World) (od:Nat) (A:Option Addr) (vs:List NV) (ns:List Gr.Nd) (ra:Addr):Prop where
 at_:GAt w od A vs ns
 rch:RchAt w od ra ns
theorem LM.kb {w w':World} {od:Nat} {A:Option Addr} {vs:List NV} {ns:List Gr.Nd} {ra:Addr} (h:LM w od A vs ns ra) (hs:od<=w.heap.size) (hk:KB od w w'):LM w' od A vs ns ra:=
 ⟨h.at_.below (hk.below (Nat.le_refl _) hs),h.rch.below (hk.below (Nat.le_refl _) hs)⟩
theorem zuv {w w':World} {base od:Nat} {v:Value} {l:List Nat} (h:OwnRow intL w base 3 v l) (hk:KB od w w') (hb:od<base):OwnRow intL w' base 3 v l:=by
 obtain⟨h0,h1⟩:=h;refine⟨h0,?_⟩;rcases h1 with h2|⟨g,cap,cur,he,hg,hB,hr⟩
 ·exact .inl h2
 ·have hB':Blk w g 3 cur:=hB;exact .inr ⟨g,cap,cur,he,hg,hk.blk hB' (by omega),hr⟩
theorem zi9 (A:Option Addr) (c cR od:Nat) (root:Int) (vs:List NV) (ns:List Gr.Nd) (ra:Addr) (F:Nat->Nat) (hr:Refs ns) (hF:LongR (Gr.succ ns) ns.length F) (hnl:ns.length<=1000) (hks:∀n∈ns,n.keys.length<=1000/\n.items.length<=1000):
 ∀(f v:Nat) (D:List Nat) (w:World),F v<f->v<ns.length->LM w od A vs ns ra->DOk F ns.length D->Blk w od 3 (icells D)->
 Calls prog 54 #[.agg #[.slice A ns.length c,.int .i64 root],.slice (some ra) ns.length cR,.slice (some ⟨od,0,none⟩) ns.length ns.length,.int .i64 v] w fun e w'=>e=.returned (.int .i64 (F v))/\KB od w w'/\∃D',DOk F ns.length D'/\Blk w' od 3 (icells D'):=by
 intro f
 induction f with
 |zero=>intro v D w h;omega
 |succ f ih=>
  intro v D w hfv hv hM hD hB;have HIH:Hid (∀(x:Nat) (D:List Nat) (w:World),F x<F v->x<ns.length->LM w od A vs ns ra->DOk F ns.length D->Blk w od 3 (icells D)->
   Calls prog 54 #[.agg #[.slice A ns.length c,.int .i64 root],.slice (some ra) ns.length cR,.slice (some ⟨od,0,none⟩) ns.length ns.length,.int .i64 x] w fun e w'=>e=.returned (.int .i64 (F x))/\KB od w w'/\∃D',DOk F ns.length D'/\Blk w' od 3 (icells D')):=hid (fun x D w h=>ih x D w (by omega))
  have HM:=hid hM;have HR:=hid hr;have HF:=hid hF;have HD:=hid hD;have hvI:(v:Int)<(ns.length:Int):=by omega
  have hFn:=hF.le_n hr (F v) v (Nat.le_refl _) hv;have hFp:=hF.pos hv;obtain⟨Fv,hFv⟩:=ex (F v)
  have HFV:=hid hFv;rw[hFv]at hFn hFp;obtain⟨w1,hw1⟩:=ex (w.alloc (.cells #[.slice A ns.length c,.int .i64 root] 24))
  have hlt:=hB.lt;obtain⟨gb,hgb⟩:=ex w.heap.size
  have HGB:Hid (od<gb/\gb=w.heap.size):=hid ⟨by omega,hgb.symm⟩;have b1:Blk w1 gb 24 #[.slice A ns.length c,.int .i64 root]:=by rw[<-hw1,<-hgb];exact Blk.new _ _ _
  have d1:Blk w1 od 3 (icells D):=by rw[<-hw1];exact hB.alloc _
  have k1:KB od w w1:=by rw[<-hw1];exact(KB.refl _ _).alloc _
  have hs1:w1.heap.size=gb+1:=by rw[<-hw1,<-hgb];simp
  have HB1:=hid b1;have HD1:=hid d1;have HK1:=hid k1;have HS1:=hid hs1;obtain⟨dv,hdv⟩:=ex (D.getD v 0)
  have HDV:Hid (dv=0\/dv=Fv):=hid (by rw[<-hdv,<-hFv];exact hD.2 v hv);have z0:w1.cell? ⟨od,v,none⟩=some (.int .i64 (dv:Int)):=by rw[d1.cell,zad (by rw[hD.1];exact hv),hdv]
  have HFE:Hid (Value.int .i64 (F v:Int)=.int .i64 (Fv:Int)):=hid (by rw[hFv]);have hvb:v<=1000:=by omega
  clear hM hr hF hD hB ih hfv hlt b1 d1 k1 hs1 hFv hdv;go_enter func54,ntmps54;go_upto_region 1 with fail;(try rw[hw1]);(try rw[hgb]);clear hw1 hgb;by_cases hd0:0<dv
  ·have hd0I:(0:Int)<(dv:Int):=by omega
   have HDF:Hid (dv=Fv):=hid (by rcases HDV.out with h|h<;>omega);clear hd0;go_wp2;go_ret;exact⟨by rw[HFE.out,HDF.out]<;>rfl,HK1.out,D,HD.out,HD1.out⟩
  ·have hd0I:¬(0:Int)<(dv:Int):=by omega
   clear hd0 HDV;go_upto_region 5 with fail;clear z0;go_loopw [9,10,11] (fun s9 s10 s11 wr=>∃(i b:Nat) (D:List Nat),i<=ns.length/\b<=ns.length/\s11=.int .i64 i/\s10=.int .i64 b/\s9=.int .i64 (lwt ns v i:Nat)/\Hid (KB od w1 wr/\DOk F ns.length D/\Blk wr od 3 (icells D)/\LBest ns F v i [] b)) (fun _ _ s11 _=>ns.length-(intOf s11).toNat)
   case atStart=>exact⟨0,0,D,by omega,by omega,rfl,rfl,rfl,hid ⟨KB.refl _ _,HD.out,HD1.out,LBest.start⟩⟩
   case round=>
    obtain⟨i,b,D,hi,hb,rfl,rfl,rfl,HL⟩:=hrel;obtain⟨wq,hwq⟩:∃wq,wq=wr:=⟨_,rfl⟩
    subst hwq;have HBQ:Hid (Blk wq gb 24 #[.slice A ns.length c,.int .i64 root]/\gb+1<=wq.heap.size/\KB od w wq):=hid ⟨HL.out.1.blk HB1.out (by have:=HGB.out;omega),by have:=HL.out.1.size;have:=HS1.out;omega,HK1.out.trans HL.out.1⟩;have HMQ:Hid (LM wq od A vs ns ra):=hid (HM.out.kb (by have:=HGB.out;omega) HBQ.out.2.2);have g0:wq.cell? ⟨gb,0,none⟩=some (.slice A ns.length c):=HBQ.out.1.cell 0;have hwl:=zxq ns v i;have HWS:=hid (zsp ns v i);obtain⟨wg,hwg⟩:=ex (lwt ns v i)
    rw[hwg]at hwl HWS;have HWG:=hid hwg;(try rw[hwg]);clear hwg;by_cases hlt:i<ns.length
    ·have hltI:(i:Int)<(ns.length:Int):=by omega
     obtain⟨ov,hov,rv,bv⟩:=HMQ.out.rch.row v hv;obtain⟨oi,hoi,ri,bi⟩:=HMQ.out.rch.row i hlt;obtain⟨p,hp⟩:=ex ((marks ns v).getD i false)
     obtain⟨q,hq⟩:=ex ((marks ns i).getD v false)
     have y1:wq.cell? ⟨ov,i,none⟩=some (.bool p):=by rw[bv.cell,zah (by rw[zbe HR.out hv];exact hlt),hp]
     have y2:wq.cell? ⟨oi,v,none⟩=some (.bool q):=by rw[bi.cell,zah (by rw[zbe HR.out hlt];exact hv),hq]
     have HMT:Hid (Gr.mt ns v i=(p && q)):=hid (by unfold Gr.mt mkd;rw[hp,hq]);have hib:i<=1000:=by omega
     clear bv bi hov hoi hp hq;cases p with
     |false=>
      have HSK:Hid (LBest ns F v (i+1) [] b/\lwt ns v (i+1)=wg):=hid ⟨HL.out.2.2.2.skip (by rw[HMT.out];rfl),by rw[HWS.out,if_neg (by rw[HMT.out];simp)];rfl⟩;go_wp2;go_roundw
      case rel=>exact⟨i+1,b,D,by omega,hb,by go_num,rfl,by rw[HSK.out.2],hid ⟨HL.out.1,HL.out.2.1,HL.out.2.2.1,HSK.out.1⟩⟩
      case measure=>simp[intOf];omega
     |true=>
      cases q with
      |false=>
       have HSK:Hid (LBest ns F v (i+1) [] b/\lwt ns v (i+1)=wg):=hid ⟨HL.out.2.2.2.skip (by rw[HMT.out];rfl),by rw[HWS.out,if_neg (by rw[HMT.out];simp)];rfl⟩;go_wp2;go_roundw
       case rel=>exact⟨i+1,b,D,by omega,hb,by go_num,rfl,by rw[HSK.out.2],hid ⟨HL.out.1,HL.out.2.1,HL.out.2.2.1,HSK.out.1⟩⟩
       case measure=>simp[intOf];omega
      |true=>
       have HWN:Hid (lwt ns v (i+1)=wg+1):=hid (by rw[HWS.out,if_pos (by rw[HMT.out];rfl)]);have HMI:Hid (Gr.mt ns v i=true):=hid HMT.out;obtain⟨ad,k,i2,rfl,hN⟩:=HMQ.out.at_.node hlt;obtain⟨ka,kn,kc⟩:=k;obtain⟨ia,inn,ic⟩:=i2;have hnm:ns[i]∈ns:=List.getElem_mem hlt;obtain⟨hkl,hil2⟩:=hks _ hnm;have HSC:Hid (Gr.succ ns i=ns[i].keys++ns[i].items/\∀x∈ns[i].keys++ns[i].items,x<ns.length):=hid ⟨zc8 hlt,HR.out _ hnm⟩;obtain⟨n,hn⟩:=ex (ns[i])
       rw[hn]at hN HSC hkl hil2;obtain rfl:kn=n.keys.length:=hN.kn;obtain rfl:inn=n.items.length:=hN.inn;have x0:=hN.c0;have x1:=hN.c1;have x2:=hN.c2;have x3:=hN.c3;have x4:=hN.c4;have HNK:Hid (RowAt intL wq od ka n.keys/\RowAt intL wq od ia n.items):=hid ⟨hN.keys,hN.items⟩;clear hN hn hnm;go_upto_region 10 with fail;obtain⟨we,hwe⟩:=ex (wq.alloc (.cells #[.int .i64 n.kind,.string ⟨n.text.toArray⟩,.bool n.ord,.slice ka n.keys.length kc,.slice ia n.items.length ic] 35))
       obtain⟨g8,hg8⟩:=ex wq.heap.size
       have HG8:Hid (Blk we g8 35 #[.int .i64 n.kind,.string ⟨n.text.toArray⟩,.bool n.ord,.slice ka n.keys.length kc,.slice ia n.items.length ic]/\Below wq.heap.size wq we/\g8<we.heap.size/\wq.heap.size<=g8):=hid (by rw[<-hwe,<-hg8];exact⟨Blk.new _ _ _,(Below.refl _ _).alloc (Nat.le_refl _) _,by simp,Nat.le_refl _⟩);(try rw[hwe]);(try rw[hg8]);have s3:we.cell? ⟨g8,3,none⟩=some (.slice ka n.keys.length kc):=HG8.out.1.cell 3;have s4:we.cell? ⟨g8,4,none⟩=some (.slice ia n.items.length ic):=HG8.out.1.cell 4;clear hwe hg8 x0 x1 x2 x3 x4 g0 y1 y2 rv ri;go_cut [13] (fun s13 wx=>∃A2 c2,s13=.slice A2 (n.keys.length+n.items.length) c2/\Hid (OwnRow intL wx we.heap.size 3 (.slice A2 (n.keys.length+n.items.length) c2) (n.keys++n.items)/\Below we.heap.size we wx))
       case first=>
        have s3a:(we.alloc (.cells #[] 3)).cell? ⟨g8,3,none⟩=some (.slice ka n.keys.length kc):=(HG8.out.1.alloc _).cell 3;have s4a:(we.alloc (.cells #[] 3)).cell? ⟨g8,4,none⟩=some (.slice ia n.items.length ic):=(HG8.out.1.alloc _).cell 4;have hownA:OwnRow intL (we.alloc (.cells #[] 3)).drew we.heap.size 3 (.slice (some ⟨we.heap.size,0,none⟩) ([]:List Nat).length 0) []:=zfo we;have hodq:od<=wq.heap.size:=by have:=HGB.out;have:=HBQ.out.2.1;omega
        have hb8:Below od wq (we.alloc (.cells #[] 3)).drew:=below_drewN ((HG8.out.2.1.mono hodq).alloc (Nat.le_trans hodq HG8.out.2.1.size) _) 1;have hrkA:RowAt intL (we.alloc (.cells #[] 3)).drew od ka n.keys:=HNK.out.1.below hb8;have hrIA:RowAt intL (we.alloc (.cells #[] 3)).drew od ia n.items:=HNK.out.2.below hb8;have HWS2:Hid (we.heap.size<=(we.alloc (.cells #[] 3)).drew.heap.size/\od<=we.heap.size/\g8<we.heap.size):=hid ⟨by simp,Nat.le_trans hodq HG8.out.2.1.size,HG8.out.1.lt⟩;have HAA:Hid (Blk (we.alloc (.cells #[] 3)).drew g8 35 #[.int .i64 n.kind,.string ⟨n.text.toArray⟩,.bool n.ord,.slice ka n.keys.length kc,.slice ia n.items.length ic]/\RowAt intL (we.alloc (.cells #[] 3)).drew od ia n.items):=hid ⟨HG8.out.1.alloc _,hrIA⟩;have hl1:([]:List Nat).length+n.keys.length<=1073741824:=by simp;omega
        have hl2:n.keys.length+n.items.length<=1073741824:=by omega
        have hws:=HWS2.out.1;clear hb8 hrIA hodq;go_region_law (first
         | (refine zax _ rfl (.tmp 56) (.tmp 58) 33 3 8 rfl intT we.heap.size (.slice (some ⟨we.heap.size,0,none⟩) ([]:List Nat).length 0) [] rfl hownA _ _ kc n.keys rfl hrkA hl1 hws ?_;intro v1 w1 hown1 hg1 hat1;rw[List.nil_append]at hown1;obtain⟨A8,c8,hv8,_⟩:=hown1.form;subst hv8;have hb1:=hownA.grown_below hg1 hws;have s41:w1.cell? ⟨g8,4,none⟩=some (.slice ia n.items.length ic):=(HAA.out.1.below hb1 HWS2.out.2.2).cell 4;have hrI1:RowAt intL w1 od ia n.items:=HAA.out.2.below (hb1.mono HWS2.out.2.1);have hw1:we.heap.size<=w1.heap.size:=Nat.le_trans hws hb1.size;have HB1:=hid hb1;clear hg1 hat1 hb1)
         | (refine zax _ rfl (.tmp 59) (.tmp 61) 33 3 8 rfl intT we.heap.size (.slice A8 n.keys.length c8) n.keys rfl hown1 _ _ ic n.items rfl hrI1 hl2 hw1 ?_;intro v2 w2 hown2 hg2 hat2;obtain⟨A9,c9,hv9,_⟩:=hown2.form;rw[List.length_append]at hv9;subst hv9;have HFN:Hid (OwnRow intL w2 we.heap.size 3 (.slice A9 (n.keys.length+n.items.length) c9) (n.keys++n.items)/\Below we.heap.size we w2):=hid ⟨hown2,(below_drewN ((Below.refl _ _).alloc (Nat.le_refl _) _) 1).trans (HB1.out.trans (hown1.grown_below hg2 hw1))⟩;clear hown2 hg2 hat2))
        all_goals
         go_wp2;go_meet;exact⟨A9,c9,rfl,HFN⟩
       case rest=>
        obtain⟨A2,c2,rfl,HN⟩:=hcut;have HKC:Hid (KB od wq wc):=hid ((KB.of_below HG8.out.2.1).trans (KB.of_below HN.out.2));have HBS:Hid (od<we.heap.size/\we.heap.size<=wc.heap.size):=hid ⟨by have:=HG8.out;have:=HGB.out;have:=HBQ.out;omega,HN.out.2.size⟩;have HDW:Hid (Blk wc od 3 (icells D)):=hid (by
         have h1:=HL.out.2.2.1.below HG8.out.2.1 HL.out.2.2.1.lt;exact h1.below HN.out.2 h1.lt)
        have HNX:Hid (OwnRow intL wc we.heap.size 3 (.slice A2 (n.keys.length+n.items.length) c2) (n.keys++n.items)):=hid HN.out.1;obtain⟨nx,hnx⟩:=ex (n.keys++n.items)
        obtain⟨nl,hnl2⟩:=ex (n.keys.length+n.items.length)
        have hnn:nx.length=nl:=by rw[<-hnx,<-hnl2];simp
        have HNN:=hid hnn;have hnb:nl<=2000:=by omega
        rw[hnl2,hnx]at HNX;rw[hnx]at HSC;(try rw[hnl2]);clear HN hnx s3 s4 hnn;go_upto_region 12 with fail;go_loopw [10,14] (fun s10 s14 wr=>∃(j b:Nat) (D:List Nat),j<=nl/\b<=ns.length/\s14=.int .i64 j/\s10=.int .i64 b/\Hid (KB od wc wr/\DOk F ns.length D/\Blk wr od 3 (icells D)/\LBest ns F v i (nx.take j) b)) (fun _ s14 _=>nl-(intOf s14).toNat)
        case atStart=>exact⟨0,b,D,by omega,hb,rfl,rfl,hid ⟨KB.refl _ _,HL.out.2.1,HDW.out,by simpa using HL.out.2.2.2⟩⟩
        case round=>
         obtain⟨j,b,D,hj,hb,rfl,rfl,HJ⟩:=hrel;obtain⟨wj,hwj⟩:∃wj,wj=wr:=⟨_,rfl⟩
         subst hwj;have HKJ:Hid (KB od wq wj):=hid (HKC.out.trans HJ.out.1);by_cases hlj:j<nl
         ·have hljI:(j:Int)<(nl:Int):=by omega
          have hlx:j<nx.length:=by rw[HNN.out];exact hlj
          obtain⟨y,hy⟩:=ex (nx[j])
          have HOJ:Hid (OwnRow intL wj we.heap.size 3 (.slice A2 nl c2) nx):=hid (zuv HNX.out HJ.out.1 HBS.out.1);obtain⟨ad3,rfl,_,y0⟩:=zae (zd6 HOJ.out).1 hlx;rw[hy]at y0;have hyn:y<ns.length:=HSC.out.2 y (by rw[<-hy];exact List.getElem_mem hlx);have hyI:(y:Int)<(ns.length:Int):=by omega
          have HXS:Hid (y∈Gr.succ ns i):=hid (by rw[HSC.out.1,<-hy];exact List.getElem_mem hlx);have HTK:Hid (nx.take (j+1)=nx.take j++[y]):=hid (by rw[List.take_succ_eq_append_getElem hlx,hy]);have HMJ:Hid (LM wj od (some ad) vs ns ra):=hid (HMQ.out.kb (by have:=HGB.out;have:=HBQ.out;omega) HKJ.out);obtain⟨oy,hoy,ry,bY⟩:=HMJ.out.rch.row y hyn;obtain⟨q,hq⟩:=ex ((marks ns y).getD v false)
          have y2:wj.cell? ⟨oy,v,none⟩=some (.bool q):=by rw[bY.cell,zah (by rw[zbe HR.out hyn];exact hv),hq]
          have HGJ:Hid (Blk wj gb 24 #[.slice (some ad) ns.length c,.int .i64 root]/\gb<wj.heap.size):=hid (by have h:=HKJ.out.blk HBQ.out.1 (by have:=HGB.out;omega);exact⟨h,h.lt⟩);have hjb:j<=2000:=by omega
          clear bY hoy hlx hy;cases q with
          |true=>
           have HB2:Hid (LBest ns F v i (nx.take (j+1)) b):=hid (by rw[HTK.out];exact HJ.out.2.2.2.old hq);clear hq;go_wp2;go_roundw
           case rel=>exact⟨j+1,b,D,by omega,hb,by go_num,rfl,hid ⟨HJ.out.1,HJ.out.2.1,HJ.out.2.2.1,HB2.out⟩⟩
           case measure=>simp[intOf];omega
          |false=>
           have HLT:Hid (F y<F v):=hid (HF.out.lt HR.out hv hlt HMI.out HXS.out hq);have HFY:=hid (HF.out.le_n HR.out (F y) y (Nat.le_refl _) hyn);have HB2:Hid (LBest ns F v i (nx.take (j+1)) (max b (F y))):=hid (by rw[HTK.out];exact HJ.out.2.2.2.new hq);have HCY:Hid (∀W,Below wj.heap.size wj W->Calls prog 54 #[.agg #[.slice (some ad) ns.length c,.int .i64 root],.slice (some ra) ns.length cR,.slice (some ⟨od,0,none⟩) ns.length ns.length,.int .i64 y] W fun e w'=>e=.returned (.int .i64 (F y))/\KB od wj w'/\∃D',DOk F ns.length D'/\Blk w' od 3 (icells D')):=hid (fun W hW=>
            (HIH.out y D W HLT.out hyn (HMJ.out.kb (by have:=HGB.out;have:=HGJ.out.2;omega) (KB.of_below hW)) HJ.out.2.1 (HJ.out.2.2.1.below hW HJ.out.2.2.1.lt)).mono (fun _ _ ⟨e1,e2,e3⟩=>⟨e1,(KB.of_below hW).trans e2,e3⟩))
           obtain⟨fy,hfy⟩:=ex (F y)
           rw[hfy]at HCY HB2 HFY;have hfb:fy<=1000:=by have:=HFY.out;omega
           have hbb:b<=1000:=by omega
           have HMX:Hid (max b fy<=ns.length):=hid (by have:=HFY.out;omega);obtain⟨mx,hmx⟩:=ex (max b fy)
           rw[hmx]at HB2 HMX;obtain⟨q0,q1⟩:=cells2 HGJ.out.1;have HSS:Hid (∀W,KB od wj W->W.cell? ⟨gb,0,none⟩=some (.slice (some ad) ns.length c)/\W.cell? ⟨gb,1,none⟩=some (.int .i64 root)/\W.cell? (ad3.add j)=some (.int .i64 y)):=hid (fun W hW=>by
            have h:=hW.blk HGJ.out.1 (by have:=HGB.out;omega);refine⟨h.cell 0,h.cell 1,?_⟩;obtain⟨ad4,e4,_,y4⟩:=zae (zd6 (zuv HOJ.out hW HBS.out.1)).1 (show j<nx.length by rw[HNN.out];exact hlj);injection e4 with e4
            subst e4;rw[y4];obtain⟨ad5,e5,_,y5⟩:=zae (zd6 HOJ.out).1 (show j<nx.length by rw[HNN.out];exact hlj);injection e5 with e5
            subst e5;rw[y0]at y5;exact y5.symm)
           clear hq hfy;go_upto_region 15 with fail;clear y2 ry;have hcase:((b:Int)<(fy:Int)/\mx=fy)\/(¬(b:Int)<(fy:Int)/\mx=b):=by omega
           clear hmx;rcases hcase with⟨hlt3,hmx⟩|⟨hlt3,hmx⟩
           all_goals
            have HMXX:=hid hmx;clear hmx;go_region_held3 (fun w'=>w'.cell? ⟨gb,0,none⟩=some (.slice (some ad) ns.length c)/\w'.cell? ⟨gb,1,none⟩=some (.int .i64 root)/\w'.cell? (ad3.add j)=some (.int .i64 y))
             (first|go_keep|exact HSS.out _ (by(first|assumption|exact KB.refl _ _|exact(KB.refl _ _).drewN 1|exact KB.drewN (by assumption) 1))) (first
             | (go_at_call 54;(with_reducible refine(HCY.out _ ?_).mono ?_);(first|assumption|exact Below.refl _ _|exact(Below.refl _ _).drew|exact Below.drew (by assumption));rintro e1 wc1 ⟨rfl,hk1,D1,hd1,hB1⟩))
            all_goals
             have H3:Hid (KB od wj wc1/\DOk F ns.length D1/\Blk wc1 od 3 (icells D1)):=hid ⟨hk1,hd1,hB1⟩;clear hk1 hd1 hB1 q0 q1 y0;go_wp2;go_roundw
             case rel=>exact⟨j+1,mx,D1,by omega,HMX.out,by go_num,by(rw[HMXX.out];first|rfl| (congr 1;omega)),hid ⟨HJ.out.1.trans H3.out.1,H3.out.2.1,H3.out.2.2,HB2.out⟩⟩
             case measure=>simp[intOf];omega
         ·have hljI:¬(j:Int)<(nl:Int):=by omega
          have HE:Hid (LBest ns F v (i+1) [] b):=hid (HJ.out.2.2.2.next HMI.out (by rw[HSC.out.1,List.take_of_length_le (by rw[HNN.out];omega)]));go_wp2;go_roundw
          case rel=>exact⟨i+1,b,D,by omega,hb,by go_num,rfl,by rw[HWN.out];go_num,hid ⟨HL.out.1.trans HKJ.out,HJ.out.2.1,HJ.out.2.2.1,HE.out⟩⟩
          case measure=>simp[intOf];omega
    ·have hltI:¬(i:Int)<(ns.length:Int):=by omega
     have HSM:Hid (wg+b=Fv):=hid (by
      obtain rfl:i=ns.length:=by omega
      have:=HL.out.2.2.2.last HR.out hv HF.out;rw[HWG.out,HFV.out]at this;exact this)
     have hsb:wg+b<=1000:=by rw[HSM.out];omega
     have zf:∀k,wq.frozen? ⟨od,k,none⟩=false:=HL.out.2.2.1.frozen;have z0:wq.cell? ⟨od,v,none⟩=some (.int .i64 ((D.getD v 0:Nat):Int)):=by rw[HL.out.2.2.1.cell,zad (by rw[HL.out.2.1.1];exact hv)]
     have HFD:Hid (DOk F ns.length (D.set v (F v))):=hid (HL.out.2.1.set v);have HKW:Hid (KB od w wq):=hid HBQ.out.2.2;have HBD:Hid (Blk (wq.setCell ⟨od,v,none⟩ (.int .i64 ((wg:Int)+(b:Int)))) od 3 (icells (D.set v (F v)))):=hid (by
      have h1:=HL.out.2.2.1.set_ v (.int .i64 ((wg:Int)+(b:Int)));have e:(wg:Int)+(b:Int)=((F v:Nat):Int):=by rw[HFV.out,<-HSM.out];omega
      rw[e,zau]at h1;rw[e];exact h1)
     have HRV:Hid (Value.int .i64 ((wg:Int)+(b:Int))=.int .i64 (F v:Int)):=hid (by rw[HFV.out,<-HSM.out];congr 1);go_wp2;go_ret;exact⟨by rw[<-HRV.out]<;>rfl,HKW.out.set _ _,D.set v (F v),HFD.out,HBD.out⟩
def slL:Lay SV:={enc:=fun x=>[x.v],sz:=1,len:=fun _=>rfl,one:=fun x u hu=>by simp at hu;subst hu;rfl,pos:=by omega}
theorem slT:SliceT prog slL 82 62 24:=zby slL 82 62 (.slice none 0 0) 24 underlying82 (by kernel_rfl) rfl (by omega)
structure RD (w wr:World) (gc:Array Value) (v:Value) (R:List SV) (ns:List Gr.Nd):Prop where
 below:Below w.heap.size w wr
 gbox:Blk wr w.heap.size 24 gc
 own:OwnRow slL wr (w.heap.size+1) 62 v R
 hd:w.heap.size+1<=wr.heap.size
 rows:∀j (hj:j<R.length),∃ob,R[j]=⟨some ⟨ob,0,none⟩,ns.length,ns.length⟩/\Blk wr ob 4 (bcells (marks ns j))
theorem zuw {w:World} {base:Nat} {v:Value} {R:List SV} {k:Nat} {cs:Array Value} (h:OwnRow slL w base 62 v R) (hb:Blk w k 4 cs):some k≠v.ownBlock:=by
 rcases h.2 with⟨rfl,_⟩|⟨g,cap,cur,rfl,_,hg,_⟩
 ·exact fun e=>by cases e
 ·intro e;have e:some k=some g:=e;injection e with e
  subst e;have hb:w.heap[k]? =some (.cells cs 4 (0,0)):=hb;rw[hb]at hg;injection hg with hg
  injection hg with _ hg _
  exact absurd hg (by decide)
section
variable {w wr w2:World} {gc:Array Value} {v v':Value} {R:List SV} {ns:List Gr.Nd} {A:Option Addr} {c:Nat}
theorem RD.later (h:RD w wr gc v R ns) (hb:Below wr.heap.size wr w2):RD w w2 gc v R ns:=
 ⟨h.below.trans (hb.mono h.below.size),h.gbox.below hb h.gbox.lt,h.own.later hb,Nat.le_trans h.hd hb.size,fun j hj=>by
  obtain⟨ob,h1,h2⟩:=h.rows j hj;exact⟨ob,h1,h2.below hb h2.lt⟩⟩
theorem RD.alloc (h:RD w wr gc v R ns) (o:Obj):RD w (wr.alloc o) gc v R ns:=h.later ((Below.refl _ _).alloc (Nat.le_refl _) _)
theorem RD.grown (h:RD w wr gc v R ns) {ob:Nat} (hob:Blk wr ob 4 (bcells (marks ns R.length))) (ho:OwnRow slL w2 (w.heap.size+1) 62 v' (R++[⟨some ⟨ob,0,none⟩,ns.length,ns.length⟩])) (hg:wr.grownBy w2 v.ownBlock):RD w w2 gc v' (R++[⟨some ⟨ob,0,none⟩,ns.length,ns.length⟩]) ns:=
 ⟨h.below.trans ((h.own.grown_below hg h.hd).mono (by omega)),h.gbox.grown hg (fun e=>absurd (h.own.lt _ e.symm).1 (by omega)),ho,Nat.le_trans h.hd (h.own.grown_below hg h.hd).size,fun j hj=>by
  by_cases hjl:j<R.length
  ·obtain⟨ob2,h1,h2⟩:=h.rows j hjl;exact⟨ob2,by rw[List.getElem_append_left hjl];exact h1,h2.grown hg (zuw h.own h2)⟩
  ·have hj2:j=R.length:=by simp at hj;omega
   subst hj2;exact⟨ob,by rw[List.getElem_concat_length rfl],hob.grown hg (zuw h.own hob)⟩⟩
theorem RD.rch (h:RD w wr gc (.slice A R.length c) R ns) (hl:R.length=ns.length) (hn:0<ns.length):∃ra,A=some ra/\RchAt wr wr.heap.size ra ns:=by
 obtain⟨A',c',e,hr⟩:=h.own.form;injection e with e1 _ e2
 subst e1;obtain⟨ra,h1,h2,_⟩:=hr.get (k:=0) (by omega);refine⟨ra,h1,h2,fun v hv=>?_⟩;obtain⟨ob,h3,h4⟩:=h.rows v (by omega);obtain⟨ra2,h5,h6,h7,_⟩:=hr.get (k:=v) (by omega);rw[h1]at h5;injection h5 with h5
 subst h5;refine⟨ob,h4.lt,?_,h4⟩;have:=h7 (R[v].v) rfl;rw[show v*slL.sz=v from Nat.mul_one v,h3]at this;exact this
end
namespace Gr
def treeI (ns:List Nd) (u k:Nat):Bool:=(((ns[u]?.map Nd.items).getD []).take k).all (fun x=>!(mkd (marks ns x) u))
def treeN (ns:List Nd) (i:Nat):Bool:=(List.range i).all (fun u=>((ns[u]?.map Nd.items).getD []).all (fun x=>!(mkd (marks ns x) u)))
theorem znq (ns:List Nd) (u:Nat):treeI ns u 0=true:=by unfold treeI;simp
theorem znr {ns:List Nd} {u k:Nat} (hu:u<ns.length) (hk:k<ns[u].items.length):treeI ns u (k+1)=(treeI ns u k && !(mkd (marks ns ns[u].items[k]) u)):=by
 unfold treeI;rw[List.getElem?_eq_getElem hu];simp only[Option.map_some,Option.getD_some];rw[List.take_succ_eq_append_getElem hk,List.all_append];simp
theorem zns {ns:List Nd} {i k:Nat} (hi:i<ns.length) (hk:ns[i].items.length<=k):treeN ns (i+1)=(treeN ns i && treeI ns i k):=by
 unfold treeN treeI;rw[List.range_succ,List.all_append];simp only[List.all_cons,List.all_nil,Bool.and_true];rw[List.getElem?_eq_getElem hi];simp only[Option.map_some,Option.getD_some];rw[List.take_of_length_le hk]
end Gr
theorem zgi (A:Option Addr) (c:Nat) (r:Nat) (vs:List NV) (ns:List Gr.Nd) (hw:WellF ns r) (hnl:ns.length<=1000) (hks:∀n∈ns,n.keys.length<=1000/\n.items.length<=1000) (w:World) (h:GAt w w.heap.size A vs ns):
 Calls prog 23 #[.agg #[.slice A ns.length c,.int .i64 r]] w fun e w'=>e=.returned (.tuple #[.int .i64 (depth ns r).1,.bool (depth ns r).2])/\Below w.heap.size w w':=by
 have H:=hid h;obtain⟨F,hF,hd1,hd2⟩:=hw.depth;have HW:=hid hw;have HF:=hid hF;have HD1:=hid hd1;have HD2:=hid hd2;have hrl:=hw.root;have hFr:=hF.le_n hw.refs (F r) r (Nat.le_refl _) hw.root;obtain⟨gc,hgc⟩:∃gc:Array Value,#[.slice A ns.length c,.int .i64 r]=gc:=⟨_,rfl⟩
 have HGC:Hid (gc[0]? =some (.slice A ns.length c)/\gc[1]? =some (.int .i64 r)):=hid (by rw[<-hgc];exact⟨rfl,rfl⟩);obtain⟨w1,hw1⟩:=ex (w.alloc (.cells #[.slice A ns.length c,.int .i64 r] 24))
 have HT1:Hid (RD w w1 gc (.slice none 0 0) [] ns):=hid (by rw[<-hw1,<-hgc];exact⟨(Below.refl _ _).alloc (Nat.le_refl _) _,Blk.new _ _ _,OwnRow.nil,by simp,fun j hj=>by simp at hj⟩);have HRA:=hid (fun a ha W hW=>zd7 A c a (r:Int) vs ns hw.refs hnl hks ha W hW);clear h hgc hw hF hd1 hd2;go_enter func23,ntmps23;go_upto_region 3 with fail;(try rw[hw1]);clear hw1;go_loopw [4,5] (fun s4 s5 wr=>∃(i:Nat) (R:List SV) (AL:Option Addr) (cL:Nat),i<=ns.length/\R.length<=ns.length/\s5=.int .i64 i/\s4=.slice AL R.length cL/\Hid (RD w wr gc (.slice AL R.length cL) R ns/\R.length=i)) (fun _ s5 _=>ns.length-(intOf s5).toNat)
 case atStart=>exact⟨0,[],none,0,by omega,by simp,rfl,rfl,hid ⟨HT1.out,rfl⟩⟩
 case round=>
  obtain⟨i,R,AL,cL,hi,hRl,rfl,rfl,HI⟩:=hrel;obtain⟨wq,hwq⟩:∃wq,wq=wr:=⟨_,rfl⟩
  subst hwq;have g0:wq.cell? ⟨w.heap.size,0,none⟩=some (.slice A ns.length c):=by rw[HI.out.1.gbox.cell];exact HGC.out.1
  have g1:wq.cell? ⟨w.heap.size,1,none⟩=some (.int .i64 r):=by rw[HI.out.1.gbox.cell];exact HGC.out.2
  have hib:i<=1000:=by omega
  by_cases hlt:i<ns.length
  ·have hltI:(i:Int)<(ns.length:Int):=by omega
   have HC:=hid (HRA.out i hlt wq ((H.out.below HI.out.1.below).more HI.out.1.below.size));go_wp2_with fail;refine HC.out.mono ?_;rintro e w2 ⟨ob,rfl,ho1,ho2,ho3⟩;have HB2:Hid (RD w w2 gc (.slice AL R.length cL) R ns/\Blk w2 ob 4 (bcells (marks ns i))/\w.heap.size+1<=w2.heap.size):=hid ⟨HI.out.1.later ho2,ho3,Nat.le_trans HI.out.1.hd ho2.size⟩;clear ho1 ho2 ho3 g0 g1;go_wp2_with (at_builtin;go_must (refine zac _ rfl (.tmp 16) (.tmp 20) 82 62 24 rfl slT (w.heap.size+1) (.slice AL R.length cL) R rfl (HB2.out.1.own.alloc _) _ _ 1 ([⟨some ⟨ob,0,none⟩,ns.length,ns.length⟩]:List SV) rfl (RowAt.lit1 _ _ rfl _ ?_) ?_ ?_ ?_))
   any_goals (first|rfl| (have:=HB2.out.2.2;omega)| (have:=HB2.out.2.2;simp;omega)| (rw[World.size_alloc];have:=HB2.out.2.2;omega))
   intro v' w5 hown hg hat;have HR5:Hid (RD w w5 gc v' (R++([⟨some ⟨ob,0,none⟩,ns.length,ns.length⟩]:List SV)) ns/\(R++([⟨some ⟨ob,0,none⟩,ns.length,ns.length⟩]:List SV)).length=i+1):=hid ⟨(HB2.out.1.alloc _).grown (by rw[HI.out.2];exact HB2.out.2.1.alloc _) hown hg,by simp[HI.out.2]⟩;obtain⟨A5,c5,hv5,_⟩:=hown.form;obtain⟨R5,hR5⟩:=ex (R++([⟨some ⟨ob,0,none⟩,ns.length,ns.length⟩]:List SV))
   rw[hR5]at HR5 hv5;subst hv5;clear hown hg hat hR5;go_wp2;go_roundw
   case rel=>exact⟨i+1,R5,A5,c5,by omega,by rw[HR5.out.2];omega,by go_num,rfl,HR5⟩
   case measure=>simp[intOf];omega
  ·have hltI:¬(i:Int)<(ns.length:Int):=by omega
   obtain⟨ra,rfl,hrc⟩:=HI.out.1.rch (by rw[HI.out.2];omega) (by omega);have HRC:=hid hrc;have HRL:Hid (R.length=ns.length):=hid (by rw[HI.out.2];omega);obtain⟨rl,hrl2⟩:=ex R.length
   have hrlI:(ns.length:Int)<=(rl:Int):=by have:=HRL.out;omega
   have HRL2:Hid (rl=ns.length):=hid (by rw[<-hrl2];exact HRL.out);have HBW:Hid (Below w.heap.size w wq):=hid HI.out.1.below;have HGQ:=hid ((H.out.below HI.out.1.below).more HI.out.1.below.size);(try rw[hrl2]);clear hrc hrl2;go_upto_region 8 with fail;go_loop [6,7] (fun s6 s7=>∃k:Nat,k<=ns.length/\s7=.int .i64 k/\s6=.bool (treeN ns k)) (fun _ s7=>ns.length-(intOf s7).toNat)
   case atStart=>exact⟨0,by omega,rfl,rfl⟩
   case round=>
    obtain⟨k,hk,rfl,rfl⟩:=hrel;by_cases hlk:k<ns.length
    ·have hlkI:(k:Int)<(ns.length:Int):=by omega
     have hnm:ns[k]∈ns:=List.getElem_mem hlk;obtain⟨hkl,hil⟩:=hks _ hnm;have HREF:=hid (HW.out.refs _ hnm);have HTI:Hid (∀j (hj:j<ns[k].items.length),treeI ns k (j+1)=(treeI ns k j && !(mkd (marks ns ns[k].items[j]) k))):=hid (fun j hj=>znr hlk hj);have HTN:Hid (∀j,ns[k].items.length<=j->treeN ns (k+1)=(treeN ns k && treeI ns k j)):=hid (fun j hj=>zns hlk hj);obtain⟨ad,ks,its,rfl,hN⟩:=HGQ.out.node hlk;obtain⟨ka,kn,kc⟩:=ks;obtain⟨ia,inn,ic⟩:=its;obtain⟨n,hn⟩:=ex (ns[k])
     rw[hn]at hN hil HREF;have HTI2:Hid (∀j (hj:j<n.items.length),treeI ns k (j+1)=(treeI ns k j && !(mkd (marks ns n.items[j]) k))):=hid (by subst hn;exact HTI.out);have HTN2:Hid (∀j,n.items.length<=j->treeN ns (k+1)=(treeN ns k && treeI ns k j)):=hid (by subst hn;exact HTN.out);obtain rfl:inn=n.items.length:=hN.inn;have x4:=hN.c4;have HIR:Hid (RowAt intL wq wq.heap.size ia n.items):=hid hN.items;obtain⟨tn,htn⟩:=ex (treeN ns k)
     (try rw[htn]);rw[htn]at HTN2;have hkb:k<=1000:=by omega
     clear hN hn hnm hkl htn HTI HTN;go_upto_region 11 with fail;go_loop [6,8] (fun s6 s8=>∃j:Nat,j<=n.items.length/\s8=.int .i64 j/\s6=.bool (tn && treeI ns k j)) (fun _ s8=>n.items.length-(intOf s8).toNat)
     case atStart=>exact⟨0,by omega,rfl,by rw[znq,Bool.and_true]⟩
     case round=>
      obtain⟨j,hj,rfl,rfl⟩:=hrel;obtain⟨tb,htb⟩:=ex (tn && treeI ns k j)
      (try rw[htb]);have HTB:=hid htb;clear htb;by_cases hlj:j<n.items.length
      ·have hljI:(j:Int)<(n.items.length:Int):=by omega
       obtain⟨y,hy⟩:=ex (n.items[j])
       obtain⟨adi,rfl,_,y0⟩:=zae HIR.out hlj;rw[hy]at y0;have hyn:y<ns.length:=HREF.out y (List.mem_append_right _ (by rw[<-hy];exact List.getElem_mem hlj));have hyI:(y:Int)<(rl:Int):=by omega
       obtain⟨oy,hoy,ry,bY⟩:=HRC.out.row y hyn;obtain⟨q,hq⟩:=ex ((marks ns y).getD k false)
       have y2:wq.cell? ⟨oy,k,none⟩=some (.bool q):=by rw[bY.cell,zah (by rw[zbe HW.out.refs hyn];exact hlk),hq]
       have HTS:Hid ((tn && treeI ns k (j+1))=(tb && !q)):=hid (by rw[HTI2.out j hlj,<-Bool.and_assoc,HTB.out,hy];unfold mkd;rw[hq]);have hjb:j<=1000:=by omega
       clear bY hoy hy hq;cases tb with
       |false=>
        go_wp2;go_round
        case rel=>exact⟨j+1,by omega,by go_num,by rw[HTS.out];rfl⟩
        case measure=>simp[intOf];omega
       |true=>
        go_wp2;go_round
        case rel=>exact⟨j+1,by omega,by go_num,by rw[HTS.out];rfl⟩
        case measure=>simp[intOf];omega
      ·have hljI:¬(j:Int)<(n.items.length:Int):=by omega
       have HE:Hid (treeN ns (k+1)=tb):=hid (by rw[HTN2.out j (by omega),HTB.out]);go_wp2;go_round
       case rel=>exact⟨k+1,by omega,by go_num,by rw[HE.out]⟩
       case measure=>simp[intOf];omega
    ·have hlkI:¬(k:Int)<(ns.length:Int):=by omega
     have HTE:Hid (treeN ns k=(depth ns r).2):=hid (by
      obtain rfl:k=ns.length:=by omega
      rw[HD2.out];rfl)
     obtain⟨tr,htr⟩:=ex (treeN ns k)
     (try rw[htr]);rw[htr]at HTE;obtain⟨fr,hfr⟩:=ex (F r)
     have HRS:Hid ((depth ns r).1=(fr:Int)-1):=hid (by rw[HD1.out,hfr]);have HFRB:Hid (fr<=ns.length):=hid (by rw[<-hfr];exact hFr);have hmk:=zb0 ns.length (by omega);have HCL:Hid (∀W od,Below wq.heap.size wq W->wq.heap.size<=od->Blk W od 3 (icells (List.replicate ns.length 0))->Calls prog 54 #[.agg #[.slice A ns.length c,.int .i64 r],.slice (some ra) rl cL,.slice (some ⟨od,0,none⟩) ns.length ns.length,.int .i64 r] W fun e w'=>e=.returned (.int .i64 fr)/\Below wq.heap.size wq w'):=hid (fun W od hW hod hB=>by
      rw[HRL2.out];refine(zi9 A c cL od (r:Int) vs ns ra F HW.out.refs HF.out hnl hks (F r+1) r (List.replicate ns.length 0) W (by omega) hrl ⟨(HGQ.out.below hW).more hod,?_⟩ (DOk.zero F ns.length) hB).mono ?_
      ·have:=HRC.out.below hW;exact⟨Nat.lt_of_lt_of_le this.lt hod,fun v hv=>by
        obtain⟨ob,h1,h2⟩:=this.row v hv;exact⟨ob,by omega,h2⟩⟩
      ·rintro e w' ⟨h1,h2,_⟩;exact⟨by rw[h1,hfr],hW.trans (h2.below hod hW.size)⟩)
     have hfb:fr<=1000:=by have:=HFRB.out;omega
     clear hfr htr hlk hk hFr;go_upto_region 14 with fail;have HSX:Hid (∀W,Below wq.heap.size wq W->W.cell? ⟨w.heap.size,0,none⟩=some (.slice A ns.length c)/\W.cell? ⟨w.heap.size,1,none⟩=some (.int .i64 r)):=hid (fun W hW=>by
      have:=HI.out.1.gbox.below hW HI.out.1.gbox.lt;exact⟨by rw[this.cell];exact HGC.out.1,by rw[this.cell];exact HGC.out.2⟩)
     go_cut [2,3] (fun s2 s3 wx=>s2=.int .i64 ((fr:Int)-1)/\s3=.bool tr/\Hid (Below wq.heap.size wq wx))
     case first=>
      go_region_held3 (fun w'=>w'.cell? ⟨w.heap.size,0,none⟩=some (.slice A ns.length c)/\w'.cell? ⟨w.heap.size,1,none⟩=some (.int .i64 r))
       (first|go_keep|exact HSX.out _ (by(first|assumption|exact Below.refl _ _|exact(Below.refl _ _).drew|exact Below.drew (by assumption)))) (first
       | (go_at_call 54;(with_reducible refine(HCL.out _ _ ?_ ?_ ?_).mono ?_);exact((Below.refl _ _).alloc (Nat.le_refl _) _).drew;exact Nat.le_refl _;exact Blk.new _ _ _;rintro e1 wc1 ⟨rfl,hb1⟩))
      all_goals
       go_wp2;go_meet
      exact⟨by rw[IntWalk.i64_in _ (by omega)],rfl,hid hb1⟩
     case rest=>
      obtain⟨rfl,rfl,HX⟩:=hcut;go_wp2;go_ret2;exact⟨by rw[HRS.out,HTE.out]<;>rfl,HBW.out.trans (HX.out.mono HBW.out.size)⟩
end Go.Proofs.YtoigpackhninoaaGreatDoor

import Derived.Test.YtoigpackhninoaaGreatDoorZ10
namespace Go.Proofs.YtoigpackhninoaaGreatDoor
open Gr
open _root_.Go.Proofs.Tryz
open _root_.Go.Lib (hid)
set_option maxRecDepth 100000
set_option maxHeartbeats 16000000
namespace Gr
def Tall (ns:List Nd):Nat->Nat->Prop
 | 0,_=>False
 |f+1,i=>∀x∈succ ns i,Tall ns f x
def KF (ns:List Nd):Prop:=∀n∈ns,n.kind=10->n.keys.length=n.items.length
end Gr
open Go.RowKit
theorem str_eq (s t:Gr.Str):((⟨s.toArray⟩:ByteArray)==⟨t.toArray⟩)=(s==t):=by
 show(s.toArray==t.toArray)=_;simp
theorem zq5 {ns:List Gr.Nd} {i:Nat} (h:i<ns.length):Gr.succ ns i=ns[i].keys++ns[i].items:=by
 unfold Gr.succ;rw[List.getElem?_eq_getElem h]
def diff (a b:Gr.Nd):Bool:=a.kind != b.kind || a.text != b.text || a.ord != b.ord || a.items.length != b.items.length
theorem zjs {ns:List Gr.Nd} {f i j:Nat} (hi:i<ns.length) (hj:j<ns.length):sameF ns (f+1) i j=(!diff ns[i] ns[j] && (if ns[i].kind=10/\ns[i].ord=false then(ns[i].keys.zip ns[i].items).all (fun x=>(ns[j].keys.zip ns[j].items).any (fun y=>sameF ns f x.1 y.1 && sameF ns f x.2 y.2))
 else(List.range ns[i].items.length).all (fun k=>(ns[i].kind != 10 || sameF ns f (ns[i].keys.getD k 0) (ns[j].keys.getD k 0)) && sameF ns f (ns[i].items.getD k 0) (ns[j].items.getD k 0)))):=by
 rw[sameF,List.getElem?_eq_getElem hi,List.getElem?_eq_getElem hj];simp only;by_cases hd:ns[i].kind≠ns[j].kind\/ns[i].text≠ns[j].text\/ns[i].ord≠ns[j].ord\/ns[i].items.length≠ns[j].items.length
 ·rw[if_pos hd];have:diff ns[i] ns[j]=true:=by
   unfold diff;rcases hd with h|h|h|h<;>simp[h]
  rw[this];rfl
 ·rw[if_neg hd];have:diff ns[i] ns[j]=false:=by
   simp only[not_or,Classical.not_not]at hd;unfold diff;simp[hd.1,hd.2.1,hd.2.2.1,hd.2.2.2]
  rw[this];simp
theorem zok (A:Option Addr) (c:Nat) (root:Int) (vs:List NV) (ns:List Gr.Nd) (hr:Refs ns) (hkf:Gr.KF ns) (_hl:ns.length<=1073741823) (hks:∀n∈ns,n.keys.length<=1073741823/\n.items.length<=1073741823/\n.text.length<=1073741823):
 ∀(f i j:Nat) (w:World),i<ns.length->j<ns.length->Tall ns f i->GAt w w.heap.size A vs ns->
 Calls prog 64 #[.agg #[.slice A ns.length c,.int .i64 root],.int .i64 i,.int .i64 j] w fun e w'=>e=.returned (.bool (sameF ns f i j))/\Below w.heap.size w w':=by
 intro f
 induction f with
 |zero=>intro i j w _ _ h;exact h.elim
 |succ f ih=>
  intro i j w hi hj hT h;have hres:=zjs (f:=f) hi hj;have hsi:=zq5 hi;have hnmi:ns[i]∈ns:=List.getElem_mem hi;have hnmj:ns[j]∈ns:=List.getElem_mem hj;obtain⟨ki1,ki2,ki3⟩:=hks _ hnmi;obtain⟨kj1,kj2,kj3⟩:=hks _ hnmj;have hri:=hr _ hnmi;have hrj:=hr _ hnmj;have hfi:=hkf _ hnmi;have hfj:=hkf _ hnmj;have HIH:Hid (∀x∈ns[i].keys++ns[i].items,∀y∈ns[j].keys++ns[j].items,∀W,GAt W W.heap.size A vs ns->Calls prog 64 #[.agg #[.slice A ns.length c,.int .i64 root],.int .i64 x,.int .i64 y] W fun e w'=>e=.returned (.bool (sameF ns f x y))/\Below W.heap.size W w'):=hid (fun x hx y hy W hW=>
   ih x y W (hri x hx) (hrj y hy) (hT x (by rw[hsi];exact hx)) hW)
  obtain⟨ad,ks,is,rfl,hNi⟩:=h.node hi;obtain⟨ka,kn,kc⟩:=ks;obtain⟨ia,inn,ic⟩:=is;obtain⟨ad',ks',is',hade,hNj⟩:=h.node hj;injection hade with hade
  subst hade;obtain⟨ka',kn',kc'⟩:=ks';obtain⟨ia',inn',ic'⟩:=is';obtain⟨a,ha⟩:=ex (ns[i])
  obtain⟨b,hb⟩:=ex (ns[j])
  rw[ha,hb]at hres HIH;rw[ha]at hNi ki1 ki2 ki3 hri hfi;rw[hb]at hNj kj1 kj2 kj3 hrj hfj;obtain rfl:kn=a.keys.length:=hNi.kn;obtain rfl:inn=a.items.length:=hNi.inn;obtain rfl:kn'=b.keys.length:=hNj.kn;obtain rfl:inn'=b.items.length:=hNj.inn;obtain⟨w1,hw1⟩:=ex (w.alloc (.cells #[.slice (some ad) ns.length c,.int .i64 root] 24))
  have l1:Below w.heap.size w w1:=by rw[<-hw1];exact(Below.refl _ _).alloc (Nat.le_refl _) _
  have b1:Blk w1 w.heap.size 24 #[.slice (some ad) ns.length c,.int .i64 root]:=by rw[<-hw1];exact Blk.new _ _ _
  obtain⟨gb,hgb⟩:=ex w.heap.size
  have HGB:=hid hgb;rw[hgb]at b1;have g0:w1.cell? ⟨gb,0,none⟩=some (.slice (some ad) ns.length c):=b1.cell 0;have lti:=hNi.lt;have ltj:=hNj.lt;have c0:w1.cell? (ad.add (i*5))=some (.int .i64 a.kind):=(l1.cell lti).trans hNi.c0;have c1:w1.cell? {block:=(ad.add (i*5)).block,off:=(ad.add (i*5)).off+1}=some (.string ⟨a.text.toArray⟩):=(l1.cell (by exact lti)).trans hNi.c1;have c2:w1.cell? {block:=(ad.add (i*5)).block,off:=(ad.add (i*5)).off+2}=some (.bool a.ord):=(l1.cell (by exact lti)).trans hNi.c2;have c3:w1.cell? {block:=(ad.add (i*5)).block,off:=(ad.add (i*5)).off+3}=some (.slice ka a.keys.length kc):=(l1.cell (by exact lti)).trans hNi.c3;have c4:w1.cell? {block:=(ad.add (i*5)).block,off:=(ad.add (i*5)).off+4}=some (.slice ia a.items.length ic):=(l1.cell (by exact lti)).trans hNi.c4;have d0:w1.cell? (ad.add (j*5))=some (.int .i64 b.kind):=(l1.cell ltj).trans hNj.c0;have d1:w1.cell? {block:=(ad.add (j*5)).block,off:=(ad.add (j*5)).off+1}=some (.string ⟨b.text.toArray⟩):=(l1.cell (by exact ltj)).trans hNj.c1;have d2:w1.cell? {block:=(ad.add (j*5)).block,off:=(ad.add (j*5)).off+2}=some (.bool b.ord):=(l1.cell (by exact ltj)).trans hNj.c2;have d3:w1.cell? {block:=(ad.add (j*5)).block,off:=(ad.add (j*5)).off+3}=some (.slice ka' b.keys.length kc'):=(l1.cell (by exact ltj)).trans hNj.c3;have d4:w1.cell? {block:=(ad.add (j*5)).block,off:=(ad.add (j*5)).off+4}=some (.slice ia' b.items.length ic'):=(l1.cell (by exact ltj)).trans hNj.c4;have HR1:Hid (RowAt intL w1 gb ka a.keys/\RowAt intL w1 gb ia a.items/\RowAt intL w1 gb ka' b.keys/\RowAt intL w1 gb ia' b.items):=hid (by
   rw[<-hgb];exact⟨hNi.keys.below l1,hNi.items.below l1,hNj.keys.below l1,hNj.items.below l1⟩)
  have HG1:Hid (GAt w1 gb (some ad) vs ns):=hid (by rw[<-hgb];exact h.below l1);have L1:=hid l1;have HB1:=hid b1;have HGL:=hid b1.lt;have HRES:=hid hres;have HFI:=hid (And.intro hfi hfj);have hiI:(i:Int)<(ns.length:Int):=by omega
  have hjI:(j:Int)<(ns.length:Int):=by omega
  clear ih hT h hres hsi hnmi hnmj hri hrj hfi hfj hNi hNj ha hb l1 b1 lti ltj;go_enter func64,ntmps64;go_upto_region 1 with fail;(try rw[hw1]);(try rw[hgb]);clear hw1 hgb;go_cut [7,8] (fun s7 s8 wx=>∃g7 g8,s7=.pointer (some ⟨g7,0,none⟩)/\s8=.pointer (some ⟨g8,0,none⟩)/\Hid (Blk wx g7 35 #[.int .i64 a.kind,.string ⟨a.text.toArray⟩,.bool a.ord,.slice ka a.keys.length kc,.slice ia a.items.length ic]/\Blk wx g8 35 #[.int .i64 b.kind,.string ⟨b.text.toArray⟩,.bool b.ord,.slice ka' b.keys.length kc',.slice ia' b.items.length ic']/\Below w1.heap.size w1 wx))
  case first=>
   go_region_held3 (fun w'=>w'.cell? ⟨gb,0,none⟩=some (.slice (some ad) ns.length c)/\
    w'.cell? (ad.add (i*5))=some (.int .i64 a.kind)/\w'.cell? {block:=(ad.add (i*5)).block,off:=(ad.add (i*5)).off+1}=some (.string ⟨a.text.toArray⟩)/\w'.cell? {block:=(ad.add (i*5)).block,off:=(ad.add (i*5)).off+2}=some (.bool a.ord)/\
    w'.cell? {block:=(ad.add (i*5)).block,off:=(ad.add (i*5)).off+3}=some (.slice ka a.keys.length kc)/\w'.cell? {block:=(ad.add (i*5)).block,off:=(ad.add (i*5)).off+4}=some (.slice ia a.items.length ic)/\
    w'.cell? (ad.add (j*5))=some (.int .i64 b.kind)/\w'.cell? {block:=(ad.add (j*5)).block,off:=(ad.add (j*5)).off+1}=some (.string ⟨b.text.toArray⟩)/\w'.cell? {block:=(ad.add (j*5)).block,off:=(ad.add (j*5)).off+2}=some (.bool b.ord)/\
    w'.cell? {block:=(ad.add (j*5)).block,off:=(ad.add (j*5)).off+3}=some (.slice ka' b.keys.length kc')/\w'.cell? {block:=(ad.add (j*5)).block,off:=(ad.add (j*5)).off+4}=some (.slice ia' b.items.length ic'))
     (first|go_keep| (simp[go_sem])) (fail)
   all_goals
    go_wp2;go_meet
   ·refine⟨w1.heap.size,w1.heap.size+1,rfl,rfl,hid ⟨(Blk.new _ _ _).alloc _,?_,((((Below.refl w1.heap.size w1).alloc (Nat.le_refl _) _).alloc (by simp) _).drew)⟩⟩;have:=Blk.new (w1.alloc (.cells #[.int .i64 a.kind,.string ⟨a.text.toArray⟩,.bool a.ord,.slice ka a.keys.length kc,.slice ia a.items.length ic] 35)) 35 #[.int .i64 b.kind,.string ⟨b.text.toArray⟩,.bool b.ord,.slice ka' b.keys.length kc',.slice ia' b.items.length ic'];rw[World.size_alloc]at this;exact this
   ·refine⟨w1.heap.size+1,w1.heap.size,rfl,rfl,hid ⟨?_,(Blk.new _ _ _).alloc _,((((Below.refl w1.heap.size w1).alloc (Nat.le_refl _) _).alloc (by simp) _).drew)⟩⟩;have:=Blk.new (w1.alloc (.cells #[.int .i64 b.kind,.string ⟨b.text.toArray⟩,.bool b.ord,.slice ka' b.keys.length kc',.slice ia' b.items.length ic'] 35)) 35 #[.int .i64 a.kind,.string ⟨a.text.toArray⟩,.bool a.ord,.slice ka a.keys.length kc,.slice ia a.items.length ic];rw[World.size_alloc]at this;exact this
  case rest=>
   rename_i wOld;obtain⟨g7,g8,rfl,rfl,HB⟩:=hcut;clear c0 c1 c2 c3 c4 d0 d1 d2 d3 d4 g0;have HBW:Hid (Below w.heap.size w wc):=hid (L1.out.trans (HB.out.2.2.mono L1.out.size));obtain⟨c0,c1,c2⟩:=cells3 HB.out.1;have c4:wc.cell? ⟨g7,4,none⟩=some (.slice ia a.items.length ic):=HB.out.1.cell 4;obtain⟨d0,d1,d2⟩:=cells3 HB.out.2.1;have d4:wc.cell? ⟨g8,4,none⟩=some (.slice ia' b.items.length ic'):=HB.out.2.1.cell 4;by_cases h1:a.kind=b.kind
   ·by_cases h2:a.text=b.text
    ·by_cases h3:a.ord=b.ord
     ·by_cases h4:a.items.length=b.items.length
      ·have HC:Hid (∀x∈a.keys++a.items,∀y∈b.keys++b.items,∀W,Below wc.heap.size wc W->Calls prog 64 #[.agg #[.slice (some ad) ns.length c,.int .i64 root],.int .i64 x,.int .i64 y] W fun e W'=>Below wc.heap.size wc W'/\e=.returned (.bool (sameF ns f x y))):=hid (fun x hx y hy W hW=>
        (HIH.out x hx y hy W (((HG1.out.below (HB.out.2.2.mono (by have:=HGL.out;omega))).below (hW.mono (by have:=HGL.out;have:=HB.out.2.2.size;omega))).more (by have:=HGL.out;have:=HB.out.2.2.size;have:=hW.size;omega))).mono (fun e w' h=>⟨hW.trans (h.2.mono hW.size),h.1⟩))
       have HS:Hid (∀W,Below wc.heap.size wc W->W.cell? ⟨gb,0,none⟩=some (.slice (some ad) ns.length c)/\W.cell? ⟨gb,1,none⟩=some (.int .i64 root)/\W.cell? ⟨g7,0,none⟩=some (.int .i64 a.kind)/\W.cell? ⟨g7,3,none⟩=some (.slice ka a.keys.length kc)/\W.cell? ⟨g7,4,none⟩=some (.slice ia a.items.length ic)/\W.cell? ⟨g8,3,none⟩=some (.slice ka' b.keys.length kc')/\W.cell? ⟨g8,4,none⟩=some (.slice ia' b.items.length ic')):=hid (fun W hW=>by
        have q0:=(HB1.out.below HB.out.2.2 HGL.out).below hW (by have:=HGL.out;have:=HB.out.2.2.size;omega);have q1:=HB.out.1.below hW HB.out.1.lt;have q2:=HB.out.2.1.below hW HB.out.2.1.lt;exact⟨q0.cell 0,q0.cell 1,q1.cell 0,q1.cell 3,q1.cell 4,q2.cell 3,q2.cell 4⟩)
       have HRW:Hid (∀W,Below wc.heap.size wc W->RowAt intL W gb ka a.keys/\RowAt intL W gb ia a.items/\RowAt intL W gb ka' b.keys/\RowAt intL W gb ia' b.items):=hid (fun W hW=>by
        have l:=HB.out.2.2.trans (hW.mono HB.out.2.2.size);have l2:=l.mono (show gb<=w1.heap.size by have:=HGL.out;omega);exact⟨HR1.out.1.below l2,HR1.out.2.1.below l2,HR1.out.2.2.1.below l2,HR1.out.2.2.2.below l2⟩)
       have hdf:diff a b=false:=by unfold diff;simp[h1,h2,h3,h4]
       have hts:((⟨a.text.toArray⟩:ByteArray)==⟨a.text.toArray⟩)=true:=by rw[str_eq];simp
       rw[<-h1]at d0;rw[<-h2]at d1;rw[<-h3]at d2;rw[<-h4]at d4;have H4:=hid h4;by_cases hu:a.kind=10/\a.ord=false
       ·have hka:=HFI.out.1 hu.1;have hkb:=HFI.out.2 (h1.symm.trans hu.1);have HU:Hid (sameF ns (f+1) i j=(a.keys.zip a.items).all (fun x=>(b.keys.zip b.items).any (fun y=>sameF ns f x.1 y.1 && sameF ns f x.2 y.2))):=hid (by rw[HRES.out,hdf,if_pos hu];rfl);have HKA:=hid hka;have HKB:=hid hkb;rw[hu.1]at c0 d0;rw[hu.2]at c2 d2;have HUU:=hid hu;obtain⟨c3g0,c3g1,c3a0,c3,c3a4,d3,d34⟩:=HS.out wc (Below.refl _ _);clear c3g0 c3g1 c3a0 c3a4 d34;clear hu hka hkb hdf h1 h2 h3 h4;go_upto_region 6 with fail;clear c0 c1 c2 c3 c4 d0 d1 d2 d3 d4 hts;go_loopw [64] (fun s64 wr=>∃k:Nat,k<=a.keys.length/\s64=.int .i64 k/\Hid (Below wc.heap.size wc wr/\((a.keys.zip a.items).take k).all (fun x=>(b.keys.zip b.items).any (fun y=>sameF ns f x.1 y.1 && sameF ns f x.2 y.2))=true)) (fun s64 _=>a.keys.length-(intOf s64).toNat)
        case atStart=>exact⟨0,by omega,rfl,hid ⟨Below.refl _ _,by simp⟩⟩
        case round=>
         obtain⟨k,hk,rfl,HW⟩:=hrel;obtain⟨wq,hwq⟩:∃wq,wq=wr:=⟨_,rfl⟩
         subst hwq;by_cases hlt:k<a.keys.length
         ·have hltI:(k:Int)<(a.keys.length:Int):=by omega
          have hlt2:k<a.items.length:=by have:=HKA.out;omega
          have hlt2I:(k:Int)<(a.items.length:Int):=by omega
          obtain⟨x,hx⟩:=ex (a.keys[k])
          obtain⟨X,hX⟩:=ex (a.items[k])
          have HXM:Hid (x∈a.keys++a.items/\X∈a.keys++a.items):=hid ⟨List.mem_append_left _ (hx▸List.getElem_mem hlt),List.mem_append_right _ (hX▸List.getElem_mem hlt2)⟩;obtain⟨adk,rfl,_,y0⟩:=zag (HRW.out wq HW.out.1).1 hlt;rw[hx]at y0;have HTK:Hid (((a.keys.zip a.items).take (k+1)).all (fun x=>(b.keys.zip b.items).any (fun y=>sameF ns f x.1 y.1 && sameF ns f x.2 y.2))=(b.keys.zip b.items).any (fun y=>sameF ns f x y.1 && sameF ns f X y.2)):=hid (by
           rw[zd6 _ _ _ (by simp;omega),HW.out.2,List.getElem_zip,hx,hX];rfl)
          obtain⟨g0,g1,a0,c3,c4,d3,d4⟩:=HS.out wq HW.out.1;have HWX:=hid hx;have HWXX:=hid hX;clear hx hX g0 g1 a0 c3 c4 d4;go_upto_region 10 with fail;clear y0 d3;go_loopw [11,72] (fun s11 s72 wr=>∃(l:Nat) (fb:Bool),l<=b.keys.length/\s72=.int .i64 l/\s11=.bool fb/\Hid (Below wc.heap.size wc wr/\fb=((b.keys.zip b.items).take l).any (fun y=>sameF ns f x y.1 && sameF ns f X y.2))) (fun _ s72 _=>b.keys.length-(intOf s72).toNat)
          case atStart=>exact⟨0,false,by omega,rfl,rfl,hid ⟨HW.out.1,by simp⟩⟩
          case round=>
           obtain⟨l,fb,hl2,rfl,rfl,HV⟩:=hrel;by_cases hll:l<b.keys.length
           ·have hllI:(l:Int)<(b.keys.length:Int):=by omega
            have hll2:l<b.items.length:=by have:=HKB.out;omega
            have hll2I:(l:Int)<(b.items.length:Int):=by omega
            obtain⟨wv,hwv⟩:∃wv,wv=wr:=⟨_,rfl⟩
            subst hwv;obtain⟨y,hy⟩:=ex (b.keys[l])
            obtain⟨Y,hY⟩:=ex (b.items[l])
            have hym:y∈b.keys++b.items:=List.mem_append_left _ (hy▸List.getElem_mem hll);have hYm:Y∈b.keys++b.items:=List.mem_append_right _ (hY▸List.getElem_mem hll2);obtain⟨r1,r2,r3,r4⟩:=HRW.out wv HV.out.1;obtain⟨adl,rfl,hadl,z0⟩:=zag r3 hll;obtain⟨adX,rfl,hadX,z1⟩:=zag r2 hlt2;obtain⟨adY,rfl,hadY,z2⟩:=zag r4 hll2;rw[hy]at z0;rw[HWXX.out]at z1;rw[hY]at z2;obtain⟨g0,g1,a0,c3,c4,d3,d4⟩:=HS.out wv HV.out.1;have HTL:Hid (((b.keys.zip b.items).take (l+1)).any (fun y=>sameF ns f x y.1 && sameF ns f X y.2)=(fb || (sameF ns f x y && sameF ns f X Y))):=hid (by
             rw[List.take_succ_eq_append_getElem (by simp;omega),List.any_append,<-HV.out.2,List.getElem_zip,hy,hY];simp)
            have HC1:=hid (HC.out x HXM.out.1 y hym);have HC2:=hid (HC.out X HXM.out.2 Y hYm);have HSB:Hid (∀W,Below wc.heap.size wc W->W.cell? ⟨gb,0,none⟩=some (.slice (some ad) ns.length c)/\W.cell? ⟨gb,1,none⟩=some (.int .i64 root)/\W.cell? ⟨g7,4,none⟩=some (.slice (some adX) a.items.length ic)/\W.cell? ⟨g8,4,none⟩=some (.slice (some adY) b.items.length ic')/\W.cell? (adX.add k)=some (.int .i64 X)/\W.cell? (adY.add l)=some (.int .i64 Y)):=hid (fun W hW=>by
             obtain⟨q0,q1,_,_,q4,_,q5⟩:=HS.out W hW;obtain⟨_,t2,_,t4⟩:=HRW.out W hW;obtain⟨e1,f1,_,f3⟩:=zag t2 hlt2;obtain⟨e2,f4,_,f6⟩:=zag t4 hll2;injection f1 with f1;injection f4 with f4
             subst f1;subst f4;rw[HWXX.out]at f3;rw[hY]at f6;exact⟨q0,q1,q4,q5,f3,f6⟩)
            clear r1 r2 r3 r4 hym hYm hy hY a0 c3 d3;go_upto_region 12 with fail;have HC12:Hid (∀W:WB wc.heap.size wc,Calls prog 64 #[.agg #[.slice (some ad) ns.length c,.int .i64 root],.int .i64 x,.int .i64 y] W.w (fun e W'=>e=.returned (.bool (sameF ns f x y))/\Below wc.heap.size wc W')/\Calls prog 64 #[.agg #[.slice (some ad) ns.length c,.int .i64 root],.int .i64 X,.int .i64 Y] W.w (fun e W'=>e=.returned (.bool (sameF ns f X Y))/\Below wc.heap.size wc W')):=hid (fun W=>⟨(HC1.out W.w W.h).mono (fun _ _ h=>⟨h.2,h.1⟩),(HC2.out W.w W.h).mono (fun _ _ h=>⟨h.2,h.1⟩)⟩);have p1:=fun W:WB wc.heap.size wc=>(HSB.out W.w W.h).1
            have p2:=fun W:WB wc.heap.size wc=>(HSB.out W.w W.h).2.1
            have p3:=fun W:WB wc.heap.size wc=>(HSB.out W.w W.h).2.2.1
            have p4:=fun W:WB wc.heap.size wc=>(HSB.out W.w W.h).2.2.2.1
            have p5:=fun W:WB wc.heap.size wc=>(HSB.out W.w W.h).2.2.2.2.1
            have p6:=fun W:WB wc.heap.size wc=>(HSB.out W.w W.h).2.2.2.2.2
            obtain⟨s1,hs1⟩:=ex (sameF ns f x y)
            obtain⟨s2,hs2⟩:=ex (sameF ns f X Y)
            rw[hs1,hs2]at HC12 HTL;clear hs1 hs2 HC1 HC2 g0 g1 c4 d4 z1 z2;cases fb<;>cases s1
            all_goals
             refine zaa wc.heap.size wc (by kernel_rfl) (by kernel_rfl) HV.out.1 ?_
             repeat (go_big_quiet_step ((first| (with_reducible refine Calls.grow (HC12.out _).1)| (with_reducible refine Calls.grow (HC12.out _).2))))
             refine wpQuiet_nil ?_;rintro _ ⟨wz,rfl⟩;go_wp2;go_roundw
             case rel=>
              first
               |exact⟨l+1,true,by omega,by go_num,rfl,hid ⟨wz.h,by rw[HTL.out];rfl⟩⟩
               |exact⟨l+1,s2,by omega,by go_num,rfl,hid ⟨wz.h,by rw[HTL.out];rfl⟩⟩
               |exact⟨l+1,false,by omega,by go_num,rfl,hid ⟨wz.h,by rw[HTL.out];rfl⟩⟩
             case measure=>simp[intOf];omega
           ·have hllI:¬(l:Int)<(b.keys.length:Int):=by omega
            have hfb:fb=(b.keys.zip b.items).any (fun y=>sameF ns f x y.1 && sameF ns f X y.2):=by
             have:=HV.out.2;rwa[List.take_of_length_le (by simp;omega)]at this
            cases fb with
            |true=>
             have HNX:Hid (((a.keys.zip a.items).take (k+1)).all (fun x=>(b.keys.zip b.items).any (fun y=>sameF ns f x.1 y.1 && sameF ns f x.2 y.2))=true):=hid (by rw[HTK.out,<-hfb]);clear hfb;go_wp2;go_roundw
             case rel=>exact⟨k+1,by omega,by go_num,hid ⟨HV.out.1,HNX.out⟩⟩
             case measure=>simp[intOf];omega
            |false=>
             have HFIN:Hid (sameF ns (f+1) i j=false):=hid (by
              rw[HU.out,List.all_eq_false];refine⟨(x,X),?_,by rw[<-hfb];simp⟩;have h1:k<(a.keys.zip a.items).length:=by simp;omega
              have h2:(a.keys.zip a.items)[k]=(x,X):=by rw[List.getElem_zip,HWX.out,HWXX.out]
              rw[<-h2];exact List.getElem_mem h1)
             clear hfb;go_wp2;go_ret;rw[HFIN.out];exact⟨rfl,HBW.out.trans (HV.out.1.mono HBW.out.size)⟩
         ·have hltI:¬(k:Int)<(a.keys.length:Int):=by omega
          have HFIN:Hid (sameF ns (f+1) i j=true):=hid (by
           have:=HW.out.2;rw[List.take_of_length_le (by simp;omega)]at this;rw[HU.out,this])
          go_wp2;go_ret;rw[HFIN.out];exact⟨rfl,HBW.out.trans (HW.out.1.mono HBW.out.size)⟩
       ·have HU:Hid (sameF ns (f+1) i j=(List.range a.items.length).all (fun k=>(a.kind != 10 || sameF ns f (a.keys.getD k 0) (b.keys.getD k 0)) && sameF ns f (a.items.getD k 0) (b.items.getD k 0))):=hid (by rw[HRES.out,hdf,if_neg hu];rfl);have HKK:Hid (a.kind=10->a.keys.length=a.items.length/\b.keys.length=b.items.length):=hid (fun e=>⟨HFI.out.1 e,HFI.out.2 (h1.symm.trans e)⟩);obtain⟨kd,hkd⟩:=ex a.kind
        obtain⟨od,hod⟩:=ex a.ord
        rw[hkd]at c0 d0 HKK HS HU hu;rw[hod]at c2 d2 hu;have HUN:=hid hu;clear hkd hod hdf h1 h2 h3 h4 hu;by_cases hk10:kd=10
        ·subst hk10;cases od with
         |false=>exact absurd ⟨rfl,rfl⟩ HUN.out
         |true=>
          go_upto_region 19 with fail;clear c0 c1 c2 c4 d0 d1 d2 d4;go_loopw [105] (fun s105 wr=>∃k:Nat,k<=a.items.length/\s105=.int .i64 k/\Hid (Below wc.heap.size wc wr/\(List.range k).all (fun k=>((10:Int) != 10 || sameF ns f (a.keys.getD k 0) (b.keys.getD k 0)) && sameF ns f (a.items.getD k 0) (b.items.getD k 0))=true)) (fun s105 _=>a.items.length-(intOf s105).toNat)
          case atStart=>exact⟨0,by omega,rfl,hid ⟨Below.refl _ _,by simp⟩⟩
          case round=>
           obtain⟨k,hk,rfl,HW⟩:=hrel;by_cases hlt:k<a.items.length
           ·have hltI:(k:Int)<(a.items.length:Int):=by omega
            have hltb:k<b.items.length:=by have:=H4.out;omega
            have hltbI:(k:Int)<(b.items.length:Int):=by omega
            obtain⟨hka,hkb⟩:=HKK.out (by trivial);have hlt2:k<a.keys.length:=by omega
            have hlt2I:(k:Int)<(a.keys.length:Int):=by omega
            have hlt3:k<b.keys.length:=by have:=H4.out;omega
            have hlt3I:(k:Int)<(b.keys.length:Int):=by omega
            obtain⟨x,hx⟩:=ex (a.keys[k])
            obtain⟨y,hy⟩:=ex (b.keys[k])
            have hxm:x∈a.keys++a.items:=List.mem_append_left _ (hx▸List.getElem_mem hlt2);have hym:y∈b.keys++b.items:=List.mem_append_left _ (hy▸List.getElem_mem hlt3);obtain⟨wv,hwv⟩:∃wv,wv=wr:=⟨_,rfl⟩
            subst hwv;obtain⟨X,hX⟩:=ex (a.items[k])
            obtain⟨Y,hY⟩:=ex (b.items[k])
            have hXm:X∈a.keys++a.items:=List.mem_append_right _ (hX▸List.getElem_mem hlt);have hYm:Y∈b.keys++b.items:=List.mem_append_right _ (hY▸List.getElem_mem hltb);obtain⟨r1,r2,r3,r4⟩:=HRW.out wv HW.out.1;obtain⟨adx,rfl,_,z3⟩:=zag r1 hlt2;obtain⟨ady,rfl,_,z4⟩:=zag r3 hlt3;obtain⟨adX,rfl,_,z1⟩:=zag r2 hlt;obtain⟨adY,rfl,_,z2⟩:=zag r4 hltb;have HSB:Hid (∀W,Below wc.heap.size wc W->W.cell? ⟨gb,0,none⟩=some (.slice (some ad) ns.length c)/\W.cell? ⟨gb,1,none⟩=some (.int .i64 root)/\W.cell? ⟨g7,0,none⟩=some (.int .i64 10)/\W.cell? ⟨g7,4,none⟩=some (.slice (some adX) a.items.length ic)/\W.cell? ⟨g8,4,none⟩=some (.slice (some adY) b.items.length ic')/\W.cell? (adX.add k)=some (.int .i64 X)/\W.cell? (adY.add k)=some (.int .i64 Y)/\W.cell? ⟨g7,3,none⟩=some (.slice (some adx) a.keys.length kc)/\W.cell? ⟨g8,3,none⟩=some (.slice (some ady) b.keys.length kc')/\W.cell? (adx.add k)=some (.int .i64 x)/\W.cell? (ady.add k)=some (.int .i64 y)):=hid (fun W hW=>by
             obtain⟨q0,q1,q2,q3,q4,q6,q5⟩:=HS.out W hW;obtain⟨t1,t2,t3,t4⟩:=HRW.out W hW;obtain⟨e1,f1,_,f3⟩:=zag t2 hlt;obtain⟨e2,f4,_,f6⟩:=zag t4 hltb;injection f1 with f1;injection f4 with f4
             subst f1;subst f4;rw[hX]at f3;rw[hY]at f6;obtain⟨e3,f7,_,f9⟩:=zag t1 hlt2;obtain⟨e4,f10,_,f12⟩:=zag t3 hlt3;injection f7 with f7;injection f10 with f10
             subst f7;subst f10;rw[hx]at f9;rw[hy]at f12;exact⟨q0,q1,q2,q4,q5,f3,f6,q3,q6,f9,f12⟩)
            have HC12:Hid (∀W:WB wc.heap.size wc,Calls prog 64 #[.agg #[.slice (some ad) ns.length c,.int .i64 root],.int .i64 x,.int .i64 y] W.w (fun e W'=>e=.returned (.bool (sameF ns f x y))/\Below wc.heap.size wc W')/\Calls prog 64 #[.agg #[.slice (some ad) ns.length c,.int .i64 root],.int .i64 X,.int .i64 Y] W.w (fun e W'=>e=.returned (.bool (sameF ns f X Y))/\Below wc.heap.size wc W')):=hid (fun W=>⟨(HC.out x hxm y hym W.w W.h).mono (fun _ _ h=>⟨h.2,h.1⟩),(HC.out X hXm Y hYm W.w W.h).mono (fun _ _ h=>⟨h.2,h.1⟩)⟩);have p0:=fun W:WB wc.heap.size wc=>(HSB.out W.w W.h).1
            have p1:=fun W:WB wc.heap.size wc=>(HSB.out W.w W.h).2.1
            have p2:=fun W:WB wc.heap.size wc=>(HSB.out W.w W.h).2.2.1
            have p3:=fun W:WB wc.heap.size wc=>(HSB.out W.w W.h).2.2.2.1
            have p4:=fun W:WB wc.heap.size wc=>(HSB.out W.w W.h).2.2.2.2.1
            have p5:=fun W:WB wc.heap.size wc=>(HSB.out W.w W.h).2.2.2.2.2.1
            have p6:=fun W:WB wc.heap.size wc=>(HSB.out W.w W.h).2.2.2.2.2.2.1
            have p7:=fun W:WB wc.heap.size wc=>(HSB.out W.w W.h).2.2.2.2.2.2.2.1
            have p8:=fun W:WB wc.heap.size wc=>(HSB.out W.w W.h).2.2.2.2.2.2.2.2.1
            have p9:=fun W:WB wc.heap.size wc=>(HSB.out W.w W.h).2.2.2.2.2.2.2.2.2.1
            have p10:=fun W:WB wc.heap.size wc=>(HSB.out W.w W.h).2.2.2.2.2.2.2.2.2.2
            have gx:a.keys.getD k 0=x:=by rw[List.getD_eq_getElem?_getD,List.getElem?_eq_getElem hlt2,hx];rfl
            have gy:b.keys.getD k 0=y:=by rw[List.getD_eq_getElem?_getD,List.getElem?_eq_getElem hlt3,hy];rfl
            have gX:a.items.getD k 0=X:=by rw[List.getD_eq_getElem?_getD,List.getElem?_eq_getElem hlt,hX];rfl
            have gY:b.items.getD k 0=Y:=by rw[List.getD_eq_getElem?_getD,List.getElem?_eq_getElem hltb,hY];rfl
            obtain⟨s1,hs1⟩:=ex (sameF ns f x y)
            obtain⟨s2,hs2⟩:=ex (sameF ns f X Y)
            have HTK:Hid ((List.range (k+1)).all (fun k=>((10:Int) != 10 || sameF ns f (a.keys.getD k 0) (b.keys.getD k 0)) && sameF ns f (a.items.getD k 0) (b.items.getD k 0))=(s1 && s2)):=hid (by rw[List.range_succ,List.all_append,HW.out.2];simp only[List.all_cons,List.all_nil,Bool.true_and,Bool.and_true,gx,gy,gX,gY,hs1,hs2,bne_self_eq_false,Bool.false_or]);have HNO:Hid ((s1 && s2)=false->sameF ns (f+1) i j=false):=hid (fun e=>by
             rw[HU.out,List.all_eq_false];exact⟨k,List.mem_range.2 hlt,by simp only[gx,gy,gX,gY,hs1,hs2,bne_self_eq_false,Bool.false_or];rw[e];simp⟩)
            rw[hs1,hs2]at HC12;clear gx gy gX gY hs1 hs2 r1 r2 r3 r4 z1 z2 hx hy hxm hym hka hkb z3 z4 hX hY hXm hYm;go_upto_region 21 with fail;cases s1<;>cases s2
            all_goals
             refine zaa wc.heap.size wc (by kernel_rfl) (by kernel_rfl) HW.out.1 ?_
             repeat (go_big_quiet_step (((first| (with_reducible refine Calls.grow (HC12.out _).1)| (with_reducible refine Calls.grow (HC12.out _).2)))))
             refine wpQuiet_nil ?_;rintro _ ⟨wz,rfl⟩;clear p0 p1 p2 p3 p4 p5 p6 p7 p8 p9 p10;go_wp2_with fail
            all_goals first
             | (go_ret
                rw[HNO.out (by first|rfl|trivial)];exact⟨rfl,HBW.out.trans (wz.h.mono HBW.out.size)⟩)
             | (go_roundw
                case rel=>exact⟨k+1,by omega,by go_num,hid ⟨wz.h,by first| (rw[HTK.out];done)| (rw[HTK.out];rfl)⟩⟩
                case measure=>simp[intOf];omega)
           ·have hltI:¬(k:Int)<(a.items.length:Int):=by omega
            have HFIN:Hid (sameF ns (f+1) i j=true):=hid (by
             have:=HW.out.2;rw[show k=a.items.length from by omega]at this;rw[HU.out,this])
            go_wp2;go_ret;rw[HFIN.out];exact⟨rfl,HBW.out.trans (HW.out.1.mono HBW.out.size)⟩
        ·have hkb10:(kd==10)=false:=by simpa using hk10
         have hnb:(kd != 10)=true:=by simp[bne,hkb10]
         go_upto_region 19 with fail;clear c0 c1 c2 c4 d0 d1 d2 d4;go_loopw [105] (fun s105 wr=>∃k:Nat,k<=a.items.length/\s105=.int .i64 k/\Hid (Below wc.heap.size wc wr/\(List.range k).all (fun k=>(kd != 10 || sameF ns f (a.keys.getD k 0) (b.keys.getD k 0)) && sameF ns f (a.items.getD k 0) (b.items.getD k 0))=true)) (fun s105 _=>a.items.length-(intOf s105).toNat)
         case atStart=>exact⟨0,by omega,rfl,hid ⟨Below.refl _ _,by simp⟩⟩
         case round=>
          obtain⟨k,hk,rfl,HW⟩:=hrel;by_cases hlt:k<a.items.length
          ·have hltI:(k:Int)<(a.items.length:Int):=by omega
           have hltb:k<b.items.length:=by have:=H4.out;omega
           have hltbI:(k:Int)<(b.items.length:Int):=by omega
           obtain⟨wv,hwv⟩:∃wv,wv=wr:=⟨_,rfl⟩
           subst hwv;obtain⟨X,hX⟩:=ex (a.items[k])
           obtain⟨Y,hY⟩:=ex (b.items[k])
           have hXm:X∈a.keys++a.items:=List.mem_append_right _ (hX▸List.getElem_mem hlt);have hYm:Y∈b.keys++b.items:=List.mem_append_right _ (hY▸List.getElem_mem hltb);obtain⟨r1,r2,r3,r4⟩:=HRW.out wv HW.out.1;obtain⟨adX,rfl,_,z1⟩:=zag r2 hlt;obtain⟨adY,rfl,_,z2⟩:=zag r4 hltb;have HSB:Hid (∀W,Below wc.heap.size wc W->W.cell? ⟨gb,0,none⟩=some (.slice (some ad) ns.length c)/\W.cell? ⟨gb,1,none⟩=some (.int .i64 root)/\W.cell? ⟨g7,0,none⟩=some (.int .i64 kd)/\W.cell? ⟨g7,4,none⟩=some (.slice (some adX) a.items.length ic)/\W.cell? ⟨g8,4,none⟩=some (.slice (some adY) b.items.length ic')/\W.cell? (adX.add k)=some (.int .i64 X)/\W.cell? (adY.add k)=some (.int .i64 Y)):=hid (fun W hW=>by
            obtain⟨q0,q1,q2,q3,q4,q6,q5⟩:=HS.out W hW;obtain⟨t1,t2,t3,t4⟩:=HRW.out W hW;obtain⟨e1,f1,_,f3⟩:=zag t2 hlt;obtain⟨e2,f4,_,f6⟩:=zag t4 hltb;injection f1 with f1;injection f4 with f4
            subst f1;subst f4;rw[hX]at f3;rw[hY]at f6;exact⟨q0,q1,q2,q4,q5,f3,f6⟩)
           have HC12:Hid (∀W:WB wc.heap.size wc,True/\Calls prog 64 #[.agg #[.slice (some ad) ns.length c,.int .i64 root],.int .i64 X,.int .i64 Y] W.w (fun e W'=>e=.returned (.bool (sameF ns f X Y))/\Below wc.heap.size wc W')):=hid (fun W=>⟨trivial,(HC.out X hXm Y hYm W.w W.h).mono (fun _ _ h=>⟨h.2,h.1⟩)⟩);have p0:=fun W:WB wc.heap.size wc=>(HSB.out W.w W.h).1
           have p1:=fun W:WB wc.heap.size wc=>(HSB.out W.w W.h).2.1
           have p2:=fun W:WB wc.heap.size wc=>(HSB.out W.w W.h).2.2.1
           have p3:=fun W:WB wc.heap.size wc=>(HSB.out W.w W.h).2.2.2.1
           have p4:=fun W:WB wc.heap.size wc=>(HSB.out W.w W.h).2.2.2.2.1
           have p5:=fun W:WB wc.heap.size wc=>(HSB.out W.w W.h).2.2.2.2.2.1
           have p6:=fun W:WB wc.heap.size wc=>(HSB.out W.w W.h).2.2.2.2.2.2
           have gX:a.items.getD k 0=X:=by rw[List.getD_eq_getElem?_getD,List.getElem?_eq_getElem hlt,hX];rfl
           have gY:b.items.getD k 0=Y:=by rw[List.getD_eq_getElem?_getD,List.getElem?_eq_getElem hltb,hY];rfl
           obtain⟨s2,hs2⟩:=ex (sameF ns f X Y)
           have HTK:Hid ((List.range (k+1)).all (fun k=>(kd != 10 || sameF ns f (a.keys.getD k 0) (b.keys.getD k 0)) && sameF ns f (a.items.getD k 0) (b.items.getD k 0))=s2):=hid (by rw[List.range_succ,List.all_append,HW.out.2];simp only[List.all_cons,List.all_nil,Bool.true_and,Bool.and_true,gX,gY,hs2,hnb,Bool.true_or]);have HNO:Hid (s2=false->sameF ns (f+1) i j=false):=hid (fun e=>by
            rw[HU.out,List.all_eq_false];exact⟨k,List.mem_range.2 hlt,by simp only[gX,gY,hs2,hnb,Bool.true_or,Bool.true_and];rw[e];simp⟩)
           rw[hs2]at HC12;clear gX gY hs2 r1 r2 r3 r4 z1 z2 hX hY hXm hYm;go_upto_region 21 with fail;cases s2
           all_goals
            refine zaa wc.heap.size wc (by kernel_rfl) (by kernel_rfl) HW.out.1 ?_
            repeat (go_big_quiet_step (((with_reducible refine Calls.grow (HC12.out _).2))))
            refine wpQuiet_nil ?_;rintro _ ⟨wz,rfl⟩;clear p0 p1 p2 p3 p4 p5 p6;go_wp2_with fail
           all_goals first
            | (go_ret
               rw[HNO.out (by first|rfl|trivial)];exact⟨rfl,HBW.out.trans (wz.h.mono HBW.out.size)⟩)
            | (go_roundw
               case rel=>exact⟨k+1,by omega,by go_num,hid ⟨wz.h,by first| (rw[HTK.out];done)| (rw[HTK.out];rfl)⟩⟩
               case measure=>simp[intOf];omega)
          ·have hltI:¬(k:Int)<(a.items.length:Int):=by omega
           have HFIN:Hid (sameF ns (f+1) i j=true):=hid (by
            have:=HW.out.2;rw[show k=a.items.length from by omega]at this;rw[HU.out,this])
           go_wp2;go_ret;rw[HFIN.out];exact⟨rfl,HBW.out.trans (HW.out.1.mono HBW.out.size)⟩
      ·have h4I:¬((a.items.length:Int)=(b.items.length:Int)):=by omega
       have h4b:((a.items.length:Int)==(b.items.length:Int))=false:=by simpa using h4I
       have hts:((⟨a.text.toArray⟩:ByteArray)==⟨a.text.toArray⟩)=true:=by rw[str_eq];simp
       have HF:Hid (sameF ns (f+1) i j=false):=hid (by rw[HRES.out];simp[diff,h4]);rw[<-h1]at d0;rw[<-h2]at d1;rw[<-h3]at d2;clear h1 h2 h3 h4;go_wp2;go_ret;rw[HF.out];exact⟨rfl,HBW.out⟩
     ·have HF:Hid (sameF ns (f+1) i j=false):=hid (by rw[HRES.out];simp[diff,h3]);have hts:((⟨a.text.toArray⟩:ByteArray)==⟨a.text.toArray⟩)=true:=by rw[str_eq];simp
      rw[<-h1]at d0;rw[<-h2]at d1;obtain⟨x,hx⟩:=ex a.ord
      obtain⟨y,hy⟩:=ex b.ord
      rw[hx]at c2 h3;rw[hy]at d2 h3;clear h1 h2 hx hy;cases x<;>cases y<;>first|exact absurd rfl h3|skip
      all_goals
       clear h3;go_wp2;go_ret;rw[HF.out];exact⟨rfl,HBW.out⟩
    ·have HF:Hid (sameF ns (f+1) i j=false):=hid (by rw[HRES.out];simp[diff,h2]);have hts:((⟨a.text.toArray⟩:ByteArray)==⟨b.text.toArray⟩)=false:=by rw[str_eq];simpa using h2
     rw[<-h1]at d0;clear h1;go_wp2;go_ret;rw[HF.out];exact⟨rfl,HBW.out⟩
   ·have HF:Hid (sameF ns (f+1) i j=false):=hid (by rw[HRES.out];simp[diff,h1]);have h1b:(a.kind==b.kind)=false:=by simpa using h1
    go_wp2;go_ret;rw[HF.out];exact⟨rfl,HBW.out⟩
end Go.Proofs.YtoigpackhninoaaGreatDoor

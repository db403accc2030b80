import Derived.Test.YtpjmhafmeieloabGreatDoorZ11
namespace Go.Proofs.YtpjmhafmeieloabGreatDoor
open Gr
open _root_.Go.Proofs.Tryz
open _root_.Go.Lib (hid)
set_option maxRecDepth 100000
set_option maxHeartbeats 16000000
namespace Gr
def Tall (ns:List Nd):Nat->Nat->Prop
 | 0,_=>False
 |f+1,i=>∀x∈succ ns i,Tall ns f x
def KF (ns:List Nd):Prop:=∀n∈ns,n.kind=10->n.keys.length=n.items.length
end Gr
open Go.RowKit
theorem str_eq (s t:Gr.Str):((⟨s.toArray⟩:ByteArray)==⟨t.toArray⟩)=(s==t):=by
 show(s.toArray==t.toArray)=_;simp
theorem zv1 {ns:List Gr.Nd} {i:Nat} (h:i<ns.length):Gr.succ ns i=ns[i].keys++ns[i].items:=by
 unfold Gr.succ;rw[List.getElem?_eq_getElem h]
def diff (a b:Gr.Nd):Bool:=a.kind != b.kind || a.text != b.text || a.ord != b.ord || a.items.length != b.items.length
theorem zmb {ns:List Gr.Nd} {f i j:Nat} (hi:i<ns.length) (hj:j<ns.length):sameF ns (f+1) i j=(!diff ns[i] ns[j] && (if ns[i].kind=10/\ns[i].ord=false then(ns[i].keys.zip ns[i].items).all (fun x=>(ns[j].keys.zip ns[j].items).any (fun y=>sameF ns f x.1 y.1 && sameF ns f x.2 y.2))
 else(List.range ns[i].items.length).all (fun k=>(ns[i].kind != 10 || sameF ns f (ns[i].keys.getD k 0) (ns[j].keys.getD k 0)) && sameF ns f (ns[i].items.getD k 0) (ns[j].items.getD k 0)))):=by
 rw[sameF,List.getElem?_eq_getElem hi,List.getElem?_eq_getElem hj];simp only;by_cases hd:ns[i].kind≠ns[j].kind\/ns[i].text≠ns[j].text\/ns[i].ord≠ns[j].ord\/ns[i].items.length≠ns[j].items.length
 .rw[if_pos hd];have:diff ns[i] ns[j]=true:=by
   unfold diff;rcases hd with h|h|h|h<;>simp[h]
  rw[this];rfl
 .rw[if_neg hd];have:diff ns[i] ns[j]=false:=by
   simp only[not_or,Classical.not_not]at hd;unfold diff;simp[hd.1,hd.2.1,hd.2.2.1,hd.2.2.2]
  rw[this];simp
theorem zs0 (A:Option Addr) (c:Nat) (root:Int) (vs:List NV) (ns:List Gr.Nd) (hr:Refs ns) (hkf:Gr.KF ns) (_hl:ns.length<=1073741823) (hks:∀n∈ns,n.keys.length<=1073741823/\n.items.length<=1073741823/\n.text.length<=1073741823):
 ∀(f i j:Nat) (w:World),i<ns.length->j<ns.length->Tall ns f i->GAt w w.heap.size A vs ns->
 Calls prog 45 #[.agg #[.slice A ns.length c,.int .i64 root],.int .i64 i,.int .i64 j] w fun e w'=>e=.returned (.bool (sameF ns f i j))/\Below w.heap.size w w':=by
 intro f
 induction f with
 |zero=>intro i j w _ _ h;exact h.elim
 |succ f ih=>
  intro i j w hi hj hT h;have am:=zmb (f:=f) hi hj;have aQ:=zv1 hi;have V:ns[i]∈ns:=List.getElem_mem hi;have aa:ns[j]∈ns:=List.getElem_mem hj;obtain⟨a1,bl,bi⟩:=hks _ V;obtain⟨bj,bf,a5⟩:=hks _ aa;have az:=hr _ V;have aA:=hr _ aa;have aD:=hkf _ V;have aG:=hkf _ aa;have aW:Hid (∀x∈ns[i].keys++ns[i].items,∀y∈ns[j].keys++ns[j].items,∀W,GAt W W.heap.size A vs ns->Calls prog 45 #[.agg #[.slice A ns.length c,.int .i64 root],.int .i64 x,.int .i64 y] W fun e w'=>e=.returned (.bool (sameF ns f x y))/\Below W.heap.size W w'):=hid (fun x F y N W z=>
   ih x y W (az x F) (aA y N) (hT x (by rw[aQ];exact F)) z)
  obtain⟨g,ks,is,rfl,t⟩:=h.node hi;obtain⟨ka,kn,kc⟩:=ks;obtain⟨ia,bb,ic⟩:=is;obtain⟨ad',bd,be,ak,u⟩:=h.node hj;injection ak with ak
  subst ak;obtain⟨M,a6,S⟩:=bd;obtain⟨E,aU,B⟩:=be;obtain⟨a,ha⟩:=ex (ns[i])
  obtain⟨b,hb⟩:=ex (ns[j])
  rw[ha,hb]at am aW;rw[ha]at t a1 bl bi az aD;rw[hb]at u bj bf a5 aA aG;obtain rfl:kn=a.keys.length:=t.kn;obtain rfl:bb=a.items.length:=t.inn;obtain rfl:a6=b.keys.length:=u.kn;obtain rfl:aU=b.items.length:=u.inn;obtain⟨p,aw⟩:=ex (w.alloc (.cells #[.slice (some g) ns.length c,.int .i64 root] 27))
  have K:Below w.heap.size w p:=by rw[<-aw];exact(Below.refl _ _).alloc (Nat.le_refl _) _
  have b1:Blk p w.heap.size 27 #[.slice (some g) ns.length c,.int .i64 root]:=by rw[<-aw];exact Blk.new _ _ _
  obtain⟨D,ab⟩:=ex w.heap.size
  have HGB:=hid ab;rw[ab]at b1;have g0:p.cell? ⟨D,0,none⟩=some (.slice (some g) ns.length c):=b1.cell 0;have af:=t.lt;have ae:=u.lt;have c0:p.cell? (g.add (i*5))=some (.int .i64 a.kind):=(K.cell af).trans t.c0;have c1:p.cell? {block:=(g.add (i*5)).block,off:=(g.add (i*5)).off+1}=some (.string ⟨a.text.toArray⟩):=(K.cell (by exact af)).trans t.c1;have c2:p.cell? {block:=(g.add (i*5)).block,off:=(g.add (i*5)).off+2}=some (.bool a.ord):=(K.cell (by exact af)).trans t.c2;have c3:p.cell? {block:=(g.add (i*5)).block,off:=(g.add (i*5)).off+3}=some (.slice ka a.keys.length kc):=(K.cell (by exact af)).trans t.c3;have c4:p.cell? {block:=(g.add (i*5)).block,off:=(g.add (i*5)).off+4}=some (.slice ia a.items.length ic):=(K.cell (by exact af)).trans t.c4;have d0:p.cell? (g.add (j*5))=some (.int .i64 b.kind):=(K.cell ae).trans u.c0;have d1:p.cell? {block:=(g.add (j*5)).block,off:=(g.add (j*5)).off+1}=some (.string ⟨b.text.toArray⟩):=(K.cell (by exact ae)).trans u.c1;have d2:p.cell? {block:=(g.add (j*5)).block,off:=(g.add (j*5)).off+2}=some (.bool b.ord):=(K.cell (by exact ae)).trans u.c2;have d3:p.cell? {block:=(g.add (j*5)).block,off:=(g.add (j*5)).off+3}=some (.slice M b.keys.length S):=(K.cell (by exact ae)).trans u.c3;have d4:p.cell? {block:=(g.add (j*5)).block,off:=(g.add (j*5)).off+4}=some (.slice E b.items.length B):=(K.cell (by exact ae)).trans u.c4;have an:Hid (RowAt intL p D ka a.keys/\RowAt intL p D ia a.items/\RowAt intL p D M b.keys/\RowAt intL p D E b.items):=hid (by
   rw[<-ab];exact⟨t.keys.below K,t.items.below K,u.keys.below K,u.items.below K⟩)
  have a7:Hid (GAt p D (some g) vs ns):=hid (by rw[<-ab];exact h.below K);have L1:=hid K;have bk:=hid b1;have ac:=hid b1.lt;have C:=hid am;have av:=hid (And.intro aD aG);have hiI:(i:Int)<(ns.length:Int):=by omega
  have hjI:(j:Int)<(ns.length:Int):=by omega
  clear ih hT h am aQ V aa az aA aD aG t u ha hb K b1 af ae;go_enter func45,ntmps45;go_upto_region 1 with fail;(try rw[aw]);(try rw[ab]);clear aw ab;go_cut [7,8] (fun s7 s8 wx=>∃g7 g8,s7=.pointer (some ⟨g7,0,none⟩)/\s8=.pointer (some ⟨g8,0,none⟩)/\Hid (Blk wx g7 40 #[.int .i64 a.kind,.string ⟨a.text.toArray⟩,.bool a.ord,.slice ka a.keys.length kc,.slice ia a.items.length ic]/\Blk wx g8 40 #[.int .i64 b.kind,.string ⟨b.text.toArray⟩,.bool b.ord,.slice M b.keys.length S,.slice E b.items.length B]/\Below p.heap.size p wx))
  case first=>
   go_region_held3 (fun w'=>w'.cell? ⟨D,0,none⟩=some (.slice (some g) ns.length c)/\
    w'.cell? (g.add (i*5))=some (.int .i64 a.kind)/\w'.cell? {block:=(g.add (i*5)).block,off:=(g.add (i*5)).off+1}=some (.string ⟨a.text.toArray⟩)/\w'.cell? {block:=(g.add (i*5)).block,off:=(g.add (i*5)).off+2}=some (.bool a.ord)/\
    w'.cell? {block:=(g.add (i*5)).block,off:=(g.add (i*5)).off+3}=some (.slice ka a.keys.length kc)/\w'.cell? {block:=(g.add (i*5)).block,off:=(g.add (i*5)).off+4}=some (.slice ia a.items.length ic)/\
    w'.cell? (g.add (j*5))=some (.int .i64 b.kind)/\w'.cell? {block:=(g.add (j*5)).block,off:=(g.add (j*5)).off+1}=some (.string ⟨b.text.toArray⟩)/\w'.cell? {block:=(g.add (j*5)).block,off:=(g.add (j*5)).off+2}=some (.bool b.ord)/\
    w'.cell? {block:=(g.add (j*5)).block,off:=(g.add (j*5)).off+3}=some (.slice M b.keys.length S)/\w'.cell? {block:=(g.add (j*5)).block,off:=(g.add (j*5)).off+4}=some (.slice E b.items.length B))
     (first|go_keep| (simp[go_sem])) (fail)
   all_goals
    go_wp2;go_meet
   .refine⟨p.heap.size,p.heap.size+1,rfl,rfl,hid ⟨(Blk.new _ _ _).alloc _,?_,((((Below.refl p.heap.size p).alloc (Nat.le_refl _) _).alloc (by simp) _).drew)⟩⟩;have:=Blk.new (p.alloc (.cells #[.int .i64 a.kind,.string ⟨a.text.toArray⟩,.bool a.ord,.slice ka a.keys.length kc,.slice ia a.items.length ic] 40)) 40 #[.int .i64 b.kind,.string ⟨b.text.toArray⟩,.bool b.ord,.slice M b.keys.length S,.slice E b.items.length B];rw[World.size_alloc]at this;exact this
   .refine⟨p.heap.size+1,p.heap.size,rfl,rfl,hid ⟨?_,(Blk.new _ _ _).alloc _,((((Below.refl p.heap.size p).alloc (Nat.le_refl _) _).alloc (by simp) _).drew)⟩⟩;have:=Blk.new (p.alloc (.cells #[.int .i64 b.kind,.string ⟨b.text.toArray⟩,.bool b.ord,.slice M b.keys.length S,.slice E b.items.length B] 40)) 40 #[.int .i64 a.kind,.string ⟨a.text.toArray⟩,.bool a.ord,.slice ka a.keys.length kc,.slice ia a.items.length ic];rw[World.size_alloc]at this;exact this
  case rest=>
   rename_i wOld;obtain⟨g7,g8,rfl,rfl,O⟩:=hcut;clear c0 c1 c2 c3 c4 d0 d1 d2 d3 d4 g0;have m:Hid (Below w.heap.size w wc):=hid (L1.out.trans (O.out.2.2.mono L1.out.size));obtain⟨c0,c1,c2⟩:=cells3 O.out.1;have c4:wc.cell? ⟨g7,4,none⟩=some (.slice ia a.items.length ic):=O.out.1.cell 4;obtain⟨d0,d1,d2⟩:=cells3 O.out.2.1;have d4:wc.cell? ⟨g8,4,none⟩=some (.slice E b.items.length B):=O.out.2.1.cell 4;by_cases h1:a.kind=b.kind
   .by_cases h2:a.text=b.text
    .by_cases h3:a.ord=b.ord
     .by_cases h4:a.items.length=b.items.length
      .have HC:Hid (∀x∈a.keys++a.items,∀y∈b.keys++b.items,∀W,Below wc.heap.size wc W->Calls prog 45 #[.agg #[.slice (some g) ns.length c,.int .i64 root],.int .i64 x,.int .i64 y] W fun e W'=>Below wc.heap.size wc W'/\e=.returned (.bool (sameF ns f x y))):=hid (fun x F y N W z=>
        (aW.out x F y N W (((a7.out.below (O.out.2.2.mono (by have:=ac.out;omega))).below (z.mono (by have:=ac.out;have:=O.out.2.2.size;omega))).more (by have:=ac.out;have:=O.out.2.2.size;have:=z.size;omega))).mono (fun e w' h=>⟨z.trans (h.2.mono z.size),h.1⟩))
       have HS:Hid (∀W,Below wc.heap.size wc W->W.cell? ⟨D,0,none⟩=some (.slice (some g) ns.length c)/\W.cell? ⟨D,1,none⟩=some (.int .i64 root)/\W.cell? ⟨g7,0,none⟩=some (.int .i64 a.kind)/\W.cell? ⟨g7,3,none⟩=some (.slice ka a.keys.length kc)/\W.cell? ⟨g7,4,none⟩=some (.slice ia a.items.length ic)/\W.cell? ⟨g8,3,none⟩=some (.slice M b.keys.length S)/\W.cell? ⟨g8,4,none⟩=some (.slice E b.items.length B)):=hid (fun W z=>by
        have q0:=(bk.out.below O.out.2.2 ac.out).below z (by have:=ac.out;have:=O.out.2.2.size;omega);have q1:=O.out.1.below z O.out.1.lt;have q2:=O.out.2.1.below z O.out.2.1.lt;exact⟨q0.cell 0,q0.cell 1,q1.cell 0,q1.cell 3,q1.cell 4,q2.cell 3,q2.cell 4⟩)
       have R:Hid (∀W,Below wc.heap.size wc W->RowAt intL W D ka a.keys/\RowAt intL W D ia a.items/\RowAt intL W D M b.keys/\RowAt intL W D E b.items):=hid (fun W z=>by
        have l:=O.out.2.2.trans (z.mono O.out.2.2.size);have l2:=l.mono (show D<=p.heap.size by have:=ac.out;omega);exact⟨an.out.1.below l2,an.out.2.1.below l2,an.out.2.2.1.below l2,an.out.2.2.2.below l2⟩)
       have ao:diff a b=false:=by unfold diff;simp[h1,h2,h3,h4]
       have ar:((⟨a.text.toArray⟩:ByteArray)==⟨a.text.toArray⟩)=true:=by rw[str_eq];simp
       rw[<-h1]at d0;rw[<-h2]at d1;rw[<-h3]at d2;rw[<-h4]at d4;have H4:=hid h4;by_cases hu:a.kind=10/\a.ord=false
       .have ax:=av.out.1 hu.1;have ap:=av.out.2 (h1.symm.trans hu.1);have HU:Hid (sameF ns (f+1) i j=(a.keys.zip a.items).all (fun x=>(b.keys.zip b.items).any (fun y=>sameF ns f x.1 y.1 && sameF ns f x.2 y.2))):=hid (by rw[C.out,ao,if_pos hu];rfl);have ba:=hid ax;have a4:=hid ap;rw[hu.1]at c0 d0;rw[hu.2]at c2 d2;have HUU:=hid hu;obtain⟨aK,aM,aZ,c3,aI,d3,bg⟩:=HS.out wc (Below.refl _ _);clear aK aM aZ aI bg;clear hu ax ap ao h1 h2 h3 h4;go_upto_region 6 with fail;clear c0 c1 c2 c3 c4 d0 d1 d2 d3 d4 ar;go_loopw [64] (fun s64 wr=>∃k:Nat,k<=a.keys.length/\s64=.int .i64 k/\Hid (Below wc.heap.size wc wr/\((a.keys.zip a.items).take k).all (fun x=>(b.keys.zip b.items).any (fun y=>sameF ns f x.1 y.1 && sameF ns f x.2 y.2))=true)) (fun s64 _=>a.keys.length-(intOf s64).toNat)
        case atStart=>exact⟨0,by omega,rfl,hid ⟨Below.refl _ _,by simp⟩⟩
        case round=>
         obtain⟨k,hk,rfl,G⟩:=hrel;obtain⟨wq,a3⟩:∃wq,wq=wr:=⟨_,rfl⟩
         subst a3;by_cases hlt:k<a.keys.length
         .have J:(k:Int)<(a.keys.length:Int):=by omega
          have r:k<a.items.length:=by have:=ba.out;omega
          have aB:(k:Int)<(a.items.length:Int):=by omega
          obtain⟨x,F⟩:=ex (a.keys[k])
          obtain⟨X,U⟩:=ex (a.items[k])
          have aO:Hid (x∈a.keys++a.items/\X∈a.keys++a.items):=hid ⟨List.mem_append_left _ (F▸List.getElem_mem hlt),List.mem_append_right _ (U▸List.getElem_mem r)⟩;obtain⟨adk,rfl,_,y0⟩:=zae (R.out wq G.out.1).1 hlt;rw[F]at y0;have P:Hid (((a.keys.zip a.items).take (k+1)).all (fun x=>(b.keys.zip b.items).any (fun y=>sameF ns f x.1 y.1 && sameF ns f x.2 y.2))=(b.keys.zip b.items).any (fun y=>sameF ns f x y.1 && sameF ns f X y.2)):=hid (by
           rw[zb5 _ _ _ (by simp;omega),G.out.2,List.getElem_zip,F,U];rfl)
          obtain⟨g0,g1,a0,c3,c4,d3,d4⟩:=HS.out wq G.out.1;have a9:=hid F;have al:=hid U;clear F U g0 g1 a0 c3 c4 d4;go_upto_region 10 with fail;clear y0 d3;go_loopw [11,72] (fun s11 s72 wr=>∃(l:Nat) (fb:Bool),l<=b.keys.length/\s72=.int .i64 l/\s11=.bool fb/\Hid (Below wc.heap.size wc wr/\fb=((b.keys.zip b.items).take l).any (fun y=>sameF ns f x y.1 && sameF ns f X y.2))) (fun _ s72 _=>b.keys.length-(intOf s72).toNat)
          case atStart=>exact⟨0,false,by omega,rfl,rfl,hid ⟨G.out.1,by simp⟩⟩
          case round=>
           obtain⟨l,fb,hl2,rfl,rfl,HV⟩:=hrel;by_cases hll:l<b.keys.length
           .have aX:(l:Int)<(b.keys.length:Int):=by omega
            have ai:l<b.items.length:=by have:=a4.out;omega
            have hll2I:(l:Int)<(b.items.length:Int):=by omega
            obtain⟨wv,aj⟩:∃wv,wv=wr:=⟨_,rfl⟩
            subst aj;obtain⟨y,N⟩:=ex (b.keys[l])
            obtain⟨Y,T⟩:=ex (b.items[l])
            have ag:y∈b.keys++b.items:=List.mem_append_left _ (N▸List.getElem_mem hll);have L:Y∈b.keys++b.items:=List.mem_append_right _ (T▸List.getElem_mem ai);obtain⟨r1,r2,r3,r4⟩:=R.out wv HV.out.1;obtain⟨adl,rfl,hadl,z0⟩:=zae r3 hll;obtain⟨H,rfl,hadX,z1⟩:=zae r2 r;obtain⟨I,rfl,hadY,z2⟩:=zae r4 ai;rw[N]at z0;rw[al.out]at z1;rw[T]at z2;obtain⟨g0,g1,a0,c3,c4,d3,d4⟩:=HS.out wv HV.out.1;have aq:Hid (((b.keys.zip b.items).take (l+1)).any (fun y=>sameF ns f x y.1 && sameF ns f X y.2)=(fb || (sameF ns f x y && sameF ns f X Y))):=hid (by
             rw[List.take_succ_eq_append_getElem (by simp;omega),List.any_append,<-HV.out.2,List.getElem_zip,N,T];simp)
            have aY:=hid (HC.out x aO.out.1 y ag);have aH:=hid (HC.out X aO.out.2 Y L);have d:Hid (∀W,Below wc.heap.size wc W->W.cell? ⟨D,0,none⟩=some (.slice (some g) ns.length c)/\W.cell? ⟨D,1,none⟩=some (.int .i64 root)/\W.cell? ⟨g7,4,none⟩=some (.slice (some H) a.items.length ic)/\W.cell? ⟨g8,4,none⟩=some (.slice (some I) b.items.length B)/\W.cell? (H.add k)=some (.int .i64 X)/\W.cell? (I.add l)=some (.int .i64 Y)):=hid (fun W z=>by
             obtain⟨q0,q1,_,_,q4,_,q5⟩:=HS.out W z;obtain⟨_,t2,_,t4⟩:=R.out W z;obtain⟨e1,f1,_,f3⟩:=zae t2 r;obtain⟨e2,f4,_,f6⟩:=zae t4 ai;injection f1 with f1;injection f4 with f4
             subst f1;subst f4;rw[al.out]at f3;rw[T]at f6;exact⟨q0,q1,q4,q5,f3,f6⟩)
            clear r1 r2 r3 r4 ag L N T a0 c3 d3;go_upto_region 12 with fail;have o:Hid (∀W:WB wc.heap.size wc,Calls prog 45 #[.agg #[.slice (some g) ns.length c,.int .i64 root],.int .i64 x,.int .i64 y] W.w (fun e W'=>e=.returned (.bool (sameF ns f x y))/\Below wc.heap.size wc W')/\Calls prog 45 #[.agg #[.slice (some g) ns.length c,.int .i64 root],.int .i64 X,.int .i64 Y] W.w (fun e W'=>e=.returned (.bool (sameF ns f X Y))/\Below wc.heap.size wc W')):=hid (fun W=>⟨(aY.out W.w W.h).mono (fun _ _ h=>⟨h.2,h.1⟩),(aH.out W.w W.h).mono (fun _ _ h=>⟨h.2,h.1⟩)⟩);have p1:=fun W:WB wc.heap.size wc=>(d.out W.w W.h).1
            have p2:=fun W:WB wc.heap.size wc=>(d.out W.w W.h).2.1
            have p3:=fun W:WB wc.heap.size wc=>(d.out W.w W.h).2.2.1
            have p4:=fun W:WB wc.heap.size wc=>(d.out W.w W.h).2.2.2.1
            have p5:=fun W:WB wc.heap.size wc=>(d.out W.w W.h).2.2.2.2.1
            have p6:=fun W:WB wc.heap.size wc=>(d.out W.w W.h).2.2.2.2.2
            obtain⟨s1,Q⟩:=ex (sameF ns f x y)
            obtain⟨s2,s⟩:=ex (sameF ns f X Y)
            rw[Q,s]at o aq;clear Q s aY aH g0 g1 c4 d4 z1 z2;cases fb<;>cases s1
            all_goals
             refine zab wc.heap.size wc (by kernel_rfl) (by kernel_rfl) HV.out.1 ?_
             repeat (go_big_quiet_step ((first| (with_reducible refine Calls.grow (o.out _).1)| (with_reducible refine Calls.grow (o.out _).2))))
             refine wpQuiet_nil ?_;rintro _ ⟨wz,rfl⟩;go_wp2;go_roundw
             case rel=>
              first
               |exact⟨l+1,true,by omega,by go_num,rfl,hid ⟨wz.h,by rw[aq.out];rfl⟩⟩
               |exact⟨l+1,s2,by omega,by go_num,rfl,hid ⟨wz.h,by rw[aq.out];rfl⟩⟩
               |exact⟨l+1,false,by omega,by go_num,rfl,hid ⟨wz.h,by rw[aq.out];rfl⟩⟩
             case measure=>simp[intOf];omega
           .have aX:¬(l:Int)<(b.keys.length:Int):=by omega
            have au:fb=(b.keys.zip b.items).any (fun y=>sameF ns f x y.1 && sameF ns f X y.2):=by
             have:=HV.out.2;rwa[List.take_of_length_le (by simp;omega)]at this
            cases fb with
            |true=>
             have bh:Hid (((a.keys.zip a.items).take (k+1)).all (fun x=>(b.keys.zip b.items).any (fun y=>sameF ns f x.1 y.1 && sameF ns f x.2 y.2))=true):=hid (by rw[P.out,<-au]);clear au;go_wp2;go_roundw
             case rel=>exact⟨k+1,by omega,by go_num,hid ⟨HV.out.1,bh.out⟩⟩
             case measure=>simp[intOf];omega
            |false=>
             have v:Hid (sameF ns (f+1) i j=false):=hid (by
              rw[HU.out,List.all_eq_false];refine⟨(x,X),?_,by rw[<-au];simp⟩;have h1:k<(a.keys.zip a.items).length:=by simp;omega
              have h2:(a.keys.zip a.items)[k]=(x,X):=by rw[List.getElem_zip,a9.out,al.out]
              rw[<-h2];exact List.getElem_mem h1)
             clear au;go_wp2;go_ret;rw[v.out];exact⟨rfl,m.out.trans (HV.out.1.mono m.out.size)⟩
         .have J:¬(k:Int)<(a.keys.length:Int):=by omega
          have v:Hid (sameF ns (f+1) i j=true):=hid (by
           have:=G.out.2;rw[List.take_of_length_le (by simp;omega)]at this;rw[HU.out,this])
          go_wp2;go_ret;rw[v.out];exact⟨rfl,m.out.trans (G.out.1.mono m.out.size)⟩
       .have HU:Hid (sameF ns (f+1) i j=(List.range a.items.length).all (fun k=>(a.kind != 10 || sameF ns f (a.keys.getD k 0) (b.keys.getD k 0)) && sameF ns f (a.items.getD k 0) (b.items.getD k 0))):=hid (by rw[C.out,ao,if_neg hu];rfl);have aN:Hid (a.kind=10->a.keys.length=a.items.length/\b.keys.length=b.items.length):=hid (fun e=>⟨av.out.1 e,av.out.2 (h1.symm.trans e)⟩);obtain⟨kd,aJ⟩:=ex a.kind
        obtain⟨od,aS⟩:=ex a.ord
        rw[aJ]at c0 d0 aN HS HU hu;rw[aS]at c2 d2 hu;have a8:=hid hu;clear aJ aS ao h1 h2 h3 h4 hu;by_cases hk10:kd=10
        .subst hk10;cases od with
         |false=>exact absurd ⟨rfl,rfl⟩ a8.out
         |true=>
          go_upto_region 19 with fail;clear c0 c1 c2 c4 d0 d1 d2 d4;go_loopw [105] (fun s105 wr=>∃k:Nat,k<=a.items.length/\s105=.int .i64 k/\Hid (Below wc.heap.size wc wr/\(List.range k).all (fun k=>((10:Int) != 10 || sameF ns f (a.keys.getD k 0) (b.keys.getD k 0)) && sameF ns f (a.items.getD k 0) (b.items.getD k 0))=true)) (fun s105 _=>a.items.length-(intOf s105).toNat)
          case atStart=>exact⟨0,by omega,rfl,hid ⟨Below.refl _ _,by simp⟩⟩
          case round=>
           obtain⟨k,hk,rfl,G⟩:=hrel;by_cases hlt:k<a.items.length
           .have J:(k:Int)<(a.items.length:Int):=by omega
            have q:k<b.items.length:=by have:=H4.out;omega
            have ay:(k:Int)<(b.items.length:Int):=by omega
            obtain⟨ax,ap⟩:=aN.out (by trivial);have r:k<a.keys.length:=by omega
            have aB:(k:Int)<(a.keys.length:Int):=by omega
            have Z:k<b.keys.length:=by have:=H4.out;omega
            have hlt3I:(k:Int)<(b.keys.length:Int):=by omega
            obtain⟨x,F⟩:=ex (a.keys[k])
            obtain⟨y,N⟩:=ex (b.keys[k])
            have aR:x∈a.keys++a.items:=List.mem_append_left _ (F▸List.getElem_mem r);have ag:y∈b.keys++b.items:=List.mem_append_left _ (N▸List.getElem_mem Z);obtain⟨wv,aj⟩:∃wv,wv=wr:=⟨_,rfl⟩
            subst aj;obtain⟨X,U⟩:=ex (a.items[k])
            obtain⟨Y,T⟩:=ex (b.items[k])
            have ah:X∈a.keys++a.items:=List.mem_append_right _ (U▸List.getElem_mem hlt);have L:Y∈b.keys++b.items:=List.mem_append_right _ (T▸List.getElem_mem q);obtain⟨r1,r2,r3,r4⟩:=R.out wv G.out.1;obtain⟨aV,rfl,_,z3⟩:=zae r1 r;obtain⟨aT,rfl,_,z4⟩:=zae r3 Z;obtain⟨H,rfl,_,z1⟩:=zae r2 hlt;obtain⟨I,rfl,_,z2⟩:=zae r4 q;have d:Hid (∀W,Below wc.heap.size wc W->W.cell? ⟨D,0,none⟩=some (.slice (some g) ns.length c)/\W.cell? ⟨D,1,none⟩=some (.int .i64 root)/\W.cell? ⟨g7,0,none⟩=some (.int .i64 10)/\W.cell? ⟨g7,4,none⟩=some (.slice (some H) a.items.length ic)/\W.cell? ⟨g8,4,none⟩=some (.slice (some I) b.items.length B)/\W.cell? (H.add k)=some (.int .i64 X)/\W.cell? (I.add k)=some (.int .i64 Y)/\W.cell? ⟨g7,3,none⟩=some (.slice (some aV) a.keys.length kc)/\W.cell? ⟨g8,3,none⟩=some (.slice (some aT) b.keys.length S)/\W.cell? (aV.add k)=some (.int .i64 x)/\W.cell? (aT.add k)=some (.int .i64 y)):=hid (fun W z=>by
             obtain⟨q0,q1,q2,q3,q4,q6,q5⟩:=HS.out W z;obtain⟨t1,t2,t3,t4⟩:=R.out W z;obtain⟨e1,f1,_,f3⟩:=zae t2 hlt;obtain⟨e2,f4,_,f6⟩:=zae t4 q;injection f1 with f1;injection f4 with f4
             subst f1;subst f4;rw[U]at f3;rw[T]at f6;obtain⟨e3,f7,_,f9⟩:=zae t1 r;obtain⟨e4,aF,_,aP⟩:=zae t3 Z;injection f7 with f7;injection aF with aF
             subst f7;subst aF;rw[F]at f9;rw[N]at aP;exact⟨q0,q1,q2,q4,q5,f3,f6,q3,q6,f9,aP⟩)
            have o:Hid (∀W:WB wc.heap.size wc,Calls prog 45 #[.agg #[.slice (some g) ns.length c,.int .i64 root],.int .i64 x,.int .i64 y] W.w (fun e W'=>e=.returned (.bool (sameF ns f x y))/\Below wc.heap.size wc W')/\Calls prog 45 #[.agg #[.slice (some g) ns.length c,.int .i64 root],.int .i64 X,.int .i64 Y] W.w (fun e W'=>e=.returned (.bool (sameF ns f X Y))/\Below wc.heap.size wc W')):=hid (fun W=>⟨(HC.out x aR y ag W.w W.h).mono (fun _ _ h=>⟨h.2,h.1⟩),(HC.out X ah Y L W.w W.h).mono (fun _ _ h=>⟨h.2,h.1⟩)⟩);have p0:=fun W:WB wc.heap.size wc=>(d.out W.w W.h).1
            have p1:=fun W:WB wc.heap.size wc=>(d.out W.w W.h).2.1
            have p2:=fun W:WB wc.heap.size wc=>(d.out W.w W.h).2.2.1
            have p3:=fun W:WB wc.heap.size wc=>(d.out W.w W.h).2.2.2.1
            have p4:=fun W:WB wc.heap.size wc=>(d.out W.w W.h).2.2.2.2.1
            have p5:=fun W:WB wc.heap.size wc=>(d.out W.w W.h).2.2.2.2.2.1
            have p6:=fun W:WB wc.heap.size wc=>(d.out W.w W.h).2.2.2.2.2.2.1
            have p7:=fun W:WB wc.heap.size wc=>(d.out W.w W.h).2.2.2.2.2.2.2.1
            have p8:=fun W:WB wc.heap.size wc=>(d.out W.w W.h).2.2.2.2.2.2.2.2.1
            have p9:=fun W:WB wc.heap.size wc=>(d.out W.w W.h).2.2.2.2.2.2.2.2.2.1
            have bc:=fun W:WB wc.heap.size wc=>(d.out W.w W.h).2.2.2.2.2.2.2.2.2.2
            have gx:a.keys.getD k 0=x:=by rw[List.getD_eq_getElem?_getD,List.getElem?_eq_getElem r,F];rfl
            have gy:b.keys.getD k 0=y:=by rw[List.getD_eq_getElem?_getD,List.getElem?_eq_getElem Z,N];rfl
            have gX:a.items.getD k 0=X:=by rw[List.getD_eq_getElem?_getD,List.getElem?_eq_getElem hlt,U];rfl
            have gY:b.items.getD k 0=Y:=by rw[List.getD_eq_getElem?_getD,List.getElem?_eq_getElem q,T];rfl
            obtain⟨s1,Q⟩:=ex (sameF ns f x y)
            obtain⟨s2,s⟩:=ex (sameF ns f X Y)
            have P:Hid ((List.range (k+1)).all (fun k=>((10:Int) != 10 || sameF ns f (a.keys.getD k 0) (b.keys.getD k 0)) && sameF ns f (a.items.getD k 0) (b.items.getD k 0))=(s1 && s2)):=hid (by rw[List.range_succ,List.all_append,G.out.2];simp only[List.all_cons,List.all_nil,Bool.true_and,Bool.and_true,gx,gy,gX,gY,Q,s,bne_self_eq_false,Bool.false_or]);have aE:Hid ((s1 && s2)=false->sameF ns (f+1) i j=false):=hid (fun e=>by
             rw[HU.out,List.all_eq_false];exact⟨k,List.mem_range.2 hlt,by simp only[gx,gy,gX,gY,Q,s,bne_self_eq_false,Bool.false_or];rw[e];simp⟩)
            rw[Q,s]at o;clear gx gy gX gY Q s r1 r2 r3 r4 z1 z2 F N aR ag ax ap z3 z4 U T ah L;go_upto_region 21 with fail;cases s1<;>cases s2
            all_goals
             refine zab wc.heap.size wc (by kernel_rfl) (by kernel_rfl) G.out.1 ?_
             repeat (go_big_quiet_step (((first| (with_reducible refine Calls.grow (o.out _).1)| (with_reducible refine Calls.grow (o.out _).2)))))
             refine wpQuiet_nil ?_;rintro _ ⟨wz,rfl⟩;clear p0 p1 p2 p3 p4 p5 p6 p7 p8 p9 bc;go_wp2_with fail
            all_goals first
             | (go_ret
                rw[aE.out (by first|rfl|trivial)];exact⟨rfl,m.out.trans (wz.h.mono m.out.size)⟩)
             | (go_roundw
                case rel=>exact⟨k+1,by omega,by go_num,hid ⟨wz.h,by first| (rw[P.out];done)| (rw[P.out];rfl)⟩⟩
                case measure=>simp[intOf];omega)
           .have J:¬(k:Int)<(a.items.length:Int):=by omega
            have v:Hid (sameF ns (f+1) i j=true):=hid (by
             have:=G.out.2;rw[show k=a.items.length from by omega]at this;rw[HU.out,this])
            go_wp2;go_ret;rw[v.out];exact⟨rfl,m.out.trans (G.out.1.mono m.out.size)⟩
        .have aC:(kd==10)=false:=by simpa using hk10
         have aL:(kd != 10)=true:=by simp[bne,aC]
         go_upto_region 19 with fail;clear c0 c1 c2 c4 d0 d1 d2 d4;go_loopw [105] (fun s105 wr=>∃k:Nat,k<=a.items.length/\s105=.int .i64 k/\Hid (Below wc.heap.size wc wr/\(List.range k).all (fun k=>(kd != 10 || sameF ns f (a.keys.getD k 0) (b.keys.getD k 0)) && sameF ns f (a.items.getD k 0) (b.items.getD k 0))=true)) (fun s105 _=>a.items.length-(intOf s105).toNat)
         case atStart=>exact⟨0,by omega,rfl,hid ⟨Below.refl _ _,by simp⟩⟩
         case round=>
          obtain⟨k,hk,rfl,G⟩:=hrel;by_cases hlt:k<a.items.length
          .have J:(k:Int)<(a.items.length:Int):=by omega
           have q:k<b.items.length:=by have:=H4.out;omega
           have ay:(k:Int)<(b.items.length:Int):=by omega
           obtain⟨wv,aj⟩:∃wv,wv=wr:=⟨_,rfl⟩
           subst aj;obtain⟨X,U⟩:=ex (a.items[k])
           obtain⟨Y,T⟩:=ex (b.items[k])
           have ah:X∈a.keys++a.items:=List.mem_append_right _ (U▸List.getElem_mem hlt);have L:Y∈b.keys++b.items:=List.mem_append_right _ (T▸List.getElem_mem q);obtain⟨r1,r2,r3,r4⟩:=R.out wv G.out.1;obtain⟨H,rfl,_,z1⟩:=zae r2 hlt;obtain⟨I,rfl,_,z2⟩:=zae r4 q;have d:Hid (∀W,Below wc.heap.size wc W->W.cell? ⟨D,0,none⟩=some (.slice (some g) ns.length c)/\W.cell? ⟨D,1,none⟩=some (.int .i64 root)/\W.cell? ⟨g7,0,none⟩=some (.int .i64 kd)/\W.cell? ⟨g7,4,none⟩=some (.slice (some H) a.items.length ic)/\W.cell? ⟨g8,4,none⟩=some (.slice (some I) b.items.length B)/\W.cell? (H.add k)=some (.int .i64 X)/\W.cell? (I.add k)=some (.int .i64 Y)):=hid (fun W z=>by
            obtain⟨q0,q1,q2,q3,q4,q6,q5⟩:=HS.out W z;obtain⟨t1,t2,t3,t4⟩:=R.out W z;obtain⟨e1,f1,_,f3⟩:=zae t2 hlt;obtain⟨e2,f4,_,f6⟩:=zae t4 q;injection f1 with f1;injection f4 with f4
            subst f1;subst f4;rw[U]at f3;rw[T]at f6;exact⟨q0,q1,q2,q4,q5,f3,f6⟩)
           have o:Hid (∀W:WB wc.heap.size wc,True/\Calls prog 45 #[.agg #[.slice (some g) ns.length c,.int .i64 root],.int .i64 X,.int .i64 Y] W.w (fun e W'=>e=.returned (.bool (sameF ns f X Y))/\Below wc.heap.size wc W')):=hid (fun W=>⟨trivial,(HC.out X ah Y L W.w W.h).mono (fun _ _ h=>⟨h.2,h.1⟩)⟩);have p0:=fun W:WB wc.heap.size wc=>(d.out W.w W.h).1
           have p1:=fun W:WB wc.heap.size wc=>(d.out W.w W.h).2.1
           have p2:=fun W:WB wc.heap.size wc=>(d.out W.w W.h).2.2.1
           have p3:=fun W:WB wc.heap.size wc=>(d.out W.w W.h).2.2.2.1
           have p4:=fun W:WB wc.heap.size wc=>(d.out W.w W.h).2.2.2.2.1
           have p5:=fun W:WB wc.heap.size wc=>(d.out W.w W.h).2.2.2.2.2.1
           have p6:=fun W:WB wc.heap.size wc=>(d.out W.w W.h).2.2.2.2.2.2
           have gX:a.items.getD k 0=X:=by rw[List.getD_eq_getElem?_getD,List.getElem?_eq_getElem hlt,U];rfl
           have gY:b.items.getD k 0=Y:=by rw[List.getD_eq_getElem?_getD,List.getElem?_eq_getElem q,T];rfl
           obtain⟨s2,s⟩:=ex (sameF ns f X Y)
           have P:Hid ((List.range (k+1)).all (fun k=>(kd != 10 || sameF ns f (a.keys.getD k 0) (b.keys.getD k 0)) && sameF ns f (a.items.getD k 0) (b.items.getD k 0))=s2):=hid (by rw[List.range_succ,List.all_append,G.out.2];simp only[List.all_cons,List.all_nil,Bool.true_and,Bool.and_true,gX,gY,s,aL,Bool.true_or]);have aE:Hid (s2=false->sameF ns (f+1) i j=false):=hid (fun e=>by
            rw[HU.out,List.all_eq_false];exact⟨k,List.mem_range.2 hlt,by simp only[gX,gY,s,aL,Bool.true_or,Bool.true_and];rw[e];simp⟩)
           rw[s]at o;clear gX gY s r1 r2 r3 r4 z1 z2 U T ah L;go_upto_region 21 with fail;cases s2
           all_goals
            refine zab wc.heap.size wc (by kernel_rfl) (by kernel_rfl) G.out.1 ?_
            repeat (go_big_quiet_step (((with_reducible refine Calls.grow (o.out _).2))))
            refine wpQuiet_nil ?_;rintro _ ⟨wz,rfl⟩;clear p0 p1 p2 p3 p4 p5 p6;go_wp2_with fail
           all_goals first
            | (go_ret
               rw[aE.out (by first|rfl|trivial)];exact⟨rfl,m.out.trans (wz.h.mono m.out.size)⟩)
            | (go_roundw
               case rel=>exact⟨k+1,by omega,by go_num,hid ⟨wz.h,by first| (rw[P.out];done)| (rw[P.out];rfl)⟩⟩
               case measure=>simp[intOf];omega)
          .have J:¬(k:Int)<(a.items.length:Int):=by omega
           have v:Hid (sameF ns (f+1) i j=true):=hid (by
            have:=G.out.2;rw[show k=a.items.length from by omega]at this;rw[HU.out,this])
           go_wp2;go_ret;rw[v.out];exact⟨rfl,m.out.trans (G.out.1.mono m.out.size)⟩
      .have a2:¬((a.items.length:Int)=(b.items.length:Int)):=by omega
       have h4b:((a.items.length:Int)==(b.items.length:Int))=false:=by simpa using a2
       have ar:((⟨a.text.toArray⟩:ByteArray)==⟨a.text.toArray⟩)=true:=by rw[str_eq];simp
       have HF:Hid (sameF ns (f+1) i j=false):=hid (by rw[C.out];simp[diff,h4]);rw[<-h1]at d0;rw[<-h2]at d1;rw[<-h3]at d2;clear h1 h2 h3 h4;go_wp2;go_ret;rw[HF.out];exact⟨rfl,m.out⟩
     .have HF:Hid (sameF ns (f+1) i j=false):=hid (by rw[C.out];simp[diff,h3]);have ar:((⟨a.text.toArray⟩:ByteArray)==⟨a.text.toArray⟩)=true:=by rw[str_eq];simp
      rw[<-h1]at d0;rw[<-h2]at d1;obtain⟨x,F⟩:=ex a.ord
      obtain⟨y,N⟩:=ex b.ord
      rw[F]at c2 h3;rw[N]at d2 h3;clear h1 h2 F N;cases x<;>cases y<;>first|exact absurd rfl h3|skip
      all_goals
       clear h3;go_wp2;go_ret;rw[HF.out];exact⟨rfl,m.out⟩
    .have HF:Hid (sameF ns (f+1) i j=false):=hid (by rw[C.out];simp[diff,h2]);have ar:((⟨a.text.toArray⟩:ByteArray)==⟨b.text.toArray⟩)=false:=by rw[str_eq];simpa using h2
     rw[<-h1]at d0;clear h1;go_wp2;go_ret;rw[HF.out];exact⟨rfl,m.out⟩
   .have HF:Hid (sameF ns (f+1) i j=false):=hid (by rw[C.out];simp[diff,h1]);have h1b:(a.kind==b.kind)=false:=by simpa using h1
    go_wp2;go_ret;rw[HF.out];exact⟨rfl,m.out⟩
end Go.Proofs.YtpjmhafmeieloabGreatDoor

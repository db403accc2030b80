import Derived.Test.YtpjmhafmeieloaaGreatDoorZ09
namespace Go.Proofs.YtpjmhafmeieloaaGreatDoor
open Gr
open _root_.Go.Proofs.Tryz
open _root_.Go.Lib (hid)
set_option maxRecDepth 100000
set_option maxHeartbeats 16000000
namespace Gr
def Tall (ns:List Nd):Nat->Nat->Prop
 | 0,_=>False
 |f+1,i=>∀x∈succ ns i,Tall ns f x
def KF (ns:List Nd):Prop:=∀n∈ns,n.kind=10->n.keys.length=n.items.length
end Gr
open Go.RowKit
theorem str_eq (s t:Gr.Str):((⟨s.toArray⟩:ByteArray)==⟨t.toArray⟩)=(s==t):=by
 show(s.toArray==t.toArray)=_;simp
theorem zvp {ns:List Gr.Nd} {i:Nat} (h:i<ns.length):Gr.succ ns i=ns[i].keys++ns[i].items:=by
 unfold Gr.succ;rw[List.getElem?_eq_getElem h]
def diff (a b:Gr.Nd):Bool:=a.kind != b.kind || a.text != b.text || a.ord != b.ord || a.items.length != b.items.length
theorem zmd {ns:List Gr.Nd} {f i j:Nat} (hi:i<ns.length) (hj:j<ns.length):sameF ns (f+1) i j=(!diff ns[i] ns[j] && (if ns[i].kind=10/\ns[i].ord=false then(ns[i].keys.zip ns[i].items).all (fun x=>(ns[j].keys.zip ns[j].items).any (fun y=>sameF ns f x.1 y.1 && sameF ns f x.2 y.2))
 else(List.range ns[i].items.length).all (fun k=>(ns[i].kind != 10 || sameF ns f (ns[i].keys.getD k 0) (ns[j].keys.getD k 0)) && sameF ns f (ns[i].items.getD k 0) (ns[j].items.getD k 0)))):=by
 rw[sameF,List.getElem?_eq_getElem hi,List.getElem?_eq_getElem hj];simp only;by_cases hd:ns[i].kind≠ns[j].kind\/ns[i].text≠ns[j].text\/ns[i].ord≠ns[j].ord\/ns[i].items.length≠ns[j].items.length
 .rw[if_pos hd];have:diff ns[i] ns[j]=true:=by
   unfold diff;rcases hd with h|h|h|h<;>simp[h]
  rw[this];rfl
 .rw[if_neg hd];have:diff ns[i] ns[j]=false:=by
   simp only[not_or,Classical.not_not]at hd;unfold diff;simp[hd.1,hd.2.1,hd.2.2.1,hd.2.2.2]
  rw[this];simp
theorem zsm (A:Option Addr) (c:Nat) (root:Int) (vs:List NV) (ns:List Gr.Nd) (hr:Refs ns) (hkf:Gr.KF ns) (_hl:ns.length<=1073741823) (hks:∀n∈ns,n.keys.length<=1073741823/\n.items.length<=1073741823/\n.text.length<=1073741823):
 ∀(f i j:Nat) (w:World),i<ns.length->j<ns.length->Tall ns f i->GAt w w.heap.size A vs ns->
 Calls prog 43 #[.agg #[.slice A ns.length c,.int .i64 root],.int .i64 i,.int .i64 j] w fun e w'=>e=.returned (.bool (sameF ns f i j))/\Below w.heap.size w w':=by
 intro f
 induction f with
 |zero=>intro i j w _ _ h;exact h.elim
 |succ f ih=>
  intro i j w hi hj hT h;have ag:=zmd (f:=f) hi hj;have aV:=zvp hi;have Z:ns[i]∈ns:=List.getElem_mem hi;have aa:ns[j]∈ns:=List.getElem_mem hj;obtain⟨be,bi,a3⟩:=hks _ Z;obtain⟨a1,a2,a6⟩:=hks _ aa;have aF:=hr _ Z;have az:=hr _ aa;have aD:=hkf _ Z;have aB:=hkf _ aa;have aL:Hid (∀x∈ns[i].keys++ns[i].items,∀y∈ns[j].keys++ns[j].items,∀W,GAt W W.heap.size A vs ns->Calls prog 43 #[.agg #[.slice A ns.length c,.int .i64 root],.int .i64 x,.int .i64 y] W fun e w'=>e=.returned (.bool (sameF ns f x y))/\Below W.heap.size W w'):=hid (fun x G y N W z=>
   ih x y W (aF x G) (az y N) (hT x (by rw[aV];exact G)) z)
  obtain⟨g,ks,is,rfl,t⟩:=h.node hi;obtain⟨ka,kn,kc⟩:=ks;obtain⟨ia,a7,ic⟩:=is;obtain⟨ad',bb,bc,al,u⟩:=h.node hj;injection al with al
  subst al;obtain⟨L,a5,S⟩:=bb;obtain⟨E,aZ,B⟩:=bc;obtain⟨a,ha⟩:=ex (ns[i])
  obtain⟨b,hb⟩:=ex (ns[j])
  rw[ha,hb]at ag aL;rw[ha]at t be bi a3 aF aD;rw[hb]at u a1 a2 a6 az aB;obtain rfl:kn=a.keys.length:=t.kn;obtain rfl:a7=a.items.length:=t.inn;obtain rfl:a5=b.keys.length:=u.kn;obtain rfl:aZ=b.items.length:=u.inn;obtain⟨p,aw⟩:=ex (w.alloc (.cells #[.slice (some g) ns.length c,.int .i64 root] 24))
  have K:Below w.heap.size w p:=by rw[<-aw];exact(Below.refl _ _).alloc (Nat.le_refl _) _
  have b1:Blk p w.heap.size 24 #[.slice (some g) ns.length c,.int .i64 root]:=by rw[<-aw];exact Blk.new _ _ _
  obtain⟨D,ac⟩:=ex w.heap.size
  have HGB:=hid ac;rw[ac]at b1;have g0:p.cell? ⟨D,0,none⟩=some (.slice (some g) ns.length c):=b1.cell 0;have af:=t.lt;have ae:=u.lt;have c0:p.cell? (g.add (i*5))=some (.int .i64 a.kind):=(K.cell af).trans t.c0;have c1:p.cell? {block:=(g.add (i*5)).block,off:=(g.add (i*5)).off+1}=some (.string ⟨a.text.toArray⟩):=(K.cell (by exact af)).trans t.c1;have c2:p.cell? {block:=(g.add (i*5)).block,off:=(g.add (i*5)).off+2}=some (.bool a.ord):=(K.cell (by exact af)).trans t.c2;have c3:p.cell? {block:=(g.add (i*5)).block,off:=(g.add (i*5)).off+3}=some (.slice ka a.keys.length kc):=(K.cell (by exact af)).trans t.c3;have c4:p.cell? {block:=(g.add (i*5)).block,off:=(g.add (i*5)).off+4}=some (.slice ia a.items.length ic):=(K.cell (by exact af)).trans t.c4;have d0:p.cell? (g.add (j*5))=some (.int .i64 b.kind):=(K.cell ae).trans u.c0;have d1:p.cell? {block:=(g.add (j*5)).block,off:=(g.add (j*5)).off+1}=some (.string ⟨b.text.toArray⟩):=(K.cell (by exact ae)).trans u.c1;have d2:p.cell? {block:=(g.add (j*5)).block,off:=(g.add (j*5)).off+2}=some (.bool b.ord):=(K.cell (by exact ae)).trans u.c2;have d3:p.cell? {block:=(g.add (j*5)).block,off:=(g.add (j*5)).off+3}=some (.slice L b.keys.length S):=(K.cell (by exact ae)).trans u.c3;have d4:p.cell? {block:=(g.add (j*5)).block,off:=(g.add (j*5)).off+4}=some (.slice E b.items.length B):=(K.cell (by exact ae)).trans u.c4;have au:Hid (RowAt intL p D ka a.keys/\RowAt intL p D ia a.items/\RowAt intL p D L b.keys/\RowAt intL p D E b.items):=hid (by
   rw[<-ac];exact⟨t.keys.below K,t.items.below K,u.keys.below K,u.items.below K⟩)
  have bk:Hid (GAt p D (some g) vs ns):=hid (by rw[<-ac];exact h.below K);have L1:=hid K;have ba:=hid b1;have ab:=hid b1.lt;have C:=hid ag;have aq:=hid (And.intro aD aB);have hiI:(i:Int)<(ns.length:Int):=by omega
  have hjI:(j:Int)<(ns.length:Int):=by omega
  clear ih hT h ag aV Z aa aF az aD aB t u ha hb K b1 af ae;go_enter func43,ntmps43;go_upto_region 1 with fail;(try rw[aw]);(try rw[ac]);clear aw ac;go_cut [7,8] (fun s7 s8 wx=>∃g7 g8,s7=.pointer (some ⟨g7,0,none⟩)/\s8=.pointer (some ⟨g8,0,none⟩)/\Hid (Blk wx g7 36 #[.int .i64 a.kind,.string ⟨a.text.toArray⟩,.bool a.ord,.slice ka a.keys.length kc,.slice ia a.items.length ic]/\Blk wx g8 36 #[.int .i64 b.kind,.string ⟨b.text.toArray⟩,.bool b.ord,.slice L b.keys.length S,.slice E b.items.length B]/\Below p.heap.size p wx))
  case first=>
   go_region_held3 (fun w'=>w'.cell? ⟨D,0,none⟩=some (.slice (some g) ns.length c)/\
    w'.cell? (g.add (i*5))=some (.int .i64 a.kind)/\w'.cell? {block:=(g.add (i*5)).block,off:=(g.add (i*5)).off+1}=some (.string ⟨a.text.toArray⟩)/\w'.cell? {block:=(g.add (i*5)).block,off:=(g.add (i*5)).off+2}=some (.bool a.ord)/\
    w'.cell? {block:=(g.add (i*5)).block,off:=(g.add (i*5)).off+3}=some (.slice ka a.keys.length kc)/\w'.cell? {block:=(g.add (i*5)).block,off:=(g.add (i*5)).off+4}=some (.slice ia a.items.length ic)/\
    w'.cell? (g.add (j*5))=some (.int .i64 b.kind)/\w'.cell? {block:=(g.add (j*5)).block,off:=(g.add (j*5)).off+1}=some (.string ⟨b.text.toArray⟩)/\w'.cell? {block:=(g.add (j*5)).block,off:=(g.add (j*5)).off+2}=some (.bool b.ord)/\
    w'.cell? {block:=(g.add (j*5)).block,off:=(g.add (j*5)).off+3}=some (.slice L b.keys.length S)/\w'.cell? {block:=(g.add (j*5)).block,off:=(g.add (j*5)).off+4}=some (.slice E b.items.length B))
     (first|go_keep| (simp[go_sem])) (fail)
   all_goals
    go_wp2;go_meet
   .refine⟨p.heap.size,p.heap.size+1,rfl,rfl,hid ⟨(Blk.new _ _ _).alloc _,?_,((((Below.refl p.heap.size p).alloc (Nat.le_refl _) _).alloc (by simp) _).drew)⟩⟩;have:=Blk.new (p.alloc (.cells #[.int .i64 a.kind,.string ⟨a.text.toArray⟩,.bool a.ord,.slice ka a.keys.length kc,.slice ia a.items.length ic] 36)) 36 #[.int .i64 b.kind,.string ⟨b.text.toArray⟩,.bool b.ord,.slice L b.keys.length S,.slice E b.items.length B];rw[World.size_alloc]at this;exact this
   .refine⟨p.heap.size+1,p.heap.size,rfl,rfl,hid ⟨?_,(Blk.new _ _ _).alloc _,((((Below.refl p.heap.size p).alloc (Nat.le_refl _) _).alloc (by simp) _).drew)⟩⟩;have:=Blk.new (p.alloc (.cells #[.int .i64 b.kind,.string ⟨b.text.toArray⟩,.bool b.ord,.slice L b.keys.length S,.slice E b.items.length B] 36)) 36 #[.int .i64 a.kind,.string ⟨a.text.toArray⟩,.bool a.ord,.slice ka a.keys.length kc,.slice ia a.items.length ic];rw[World.size_alloc]at this;exact this
  case rest=>
   rename_i wOld;obtain⟨g7,g8,rfl,rfl,O⟩:=hcut;clear c0 c1 c2 c3 c4 d0 d1 d2 d3 d4 g0;have m:Hid (Below w.heap.size w wc):=hid (L1.out.trans (O.out.2.2.mono L1.out.size));obtain⟨c0,c1,c2⟩:=cells3 O.out.1;have c4:wc.cell? ⟨g7,4,none⟩=some (.slice ia a.items.length ic):=O.out.1.cell 4;obtain⟨d0,d1,d2⟩:=cells3 O.out.2.1;have d4:wc.cell? ⟨g8,4,none⟩=some (.slice E b.items.length B):=O.out.2.1.cell 4;by_cases h1:a.kind=b.kind
   .by_cases h2:a.text=b.text
    .by_cases h3:a.ord=b.ord
     .by_cases h4:a.items.length=b.items.length
      .have HC:Hid (∀x∈a.keys++a.items,∀y∈b.keys++b.items,∀W,Below wc.heap.size wc W->Calls prog 43 #[.agg #[.slice (some g) ns.length c,.int .i64 root],.int .i64 x,.int .i64 y] W fun e W'=>Below wc.heap.size wc W'/\e=.returned (.bool (sameF ns f x y))):=hid (fun x G y N W z=>
        (aL.out x G y N W (((bk.out.below (O.out.2.2.mono (by have:=ab.out;omega))).below (z.mono (by have:=ab.out;have:=O.out.2.2.size;omega))).more (by have:=ab.out;have:=O.out.2.2.size;have:=z.size;omega))).mono (fun e w' h=>⟨z.trans (h.2.mono z.size),h.1⟩))
       have HS:Hid (∀W,Below wc.heap.size wc W->W.cell? ⟨D,0,none⟩=some (.slice (some g) ns.length c)/\W.cell? ⟨D,1,none⟩=some (.int .i64 root)/\W.cell? ⟨g7,0,none⟩=some (.int .i64 a.kind)/\W.cell? ⟨g7,3,none⟩=some (.slice ka a.keys.length kc)/\W.cell? ⟨g7,4,none⟩=some (.slice ia a.items.length ic)/\W.cell? ⟨g8,3,none⟩=some (.slice L b.keys.length S)/\W.cell? ⟨g8,4,none⟩=some (.slice E b.items.length B)):=hid (fun W z=>by
        have q0:=(ba.out.below O.out.2.2 ab.out).below z (by have:=ab.out;have:=O.out.2.2.size;omega);have q1:=O.out.1.below z O.out.1.lt;have q2:=O.out.2.1.below z O.out.2.1.lt;exact⟨q0.cell 0,q0.cell 1,q1.cell 0,q1.cell 3,q1.cell 4,q2.cell 3,q2.cell 4⟩)
       have P:Hid (∀W,Below wc.heap.size wc W->RowAt intL W D ka a.keys/\RowAt intL W D ia a.items/\RowAt intL W D L b.keys/\RowAt intL W D E b.items):=hid (fun W z=>by
        have l:=O.out.2.2.trans (z.mono O.out.2.2.size);have l2:=l.mono (show D<=p.heap.size by have:=ab.out;omega);exact⟨au.out.1.below l2,au.out.2.1.below l2,au.out.2.2.1.below l2,au.out.2.2.2.below l2⟩)
       have ar:diff a b=false:=by unfold diff;simp[h1,h2,h3,h4]
       have ap:((⟨a.text.toArray⟩:ByteArray)==⟨a.text.toArray⟩)=true:=by rw[str_eq];simp
       rw[<-h1]at d0;rw[<-h2]at d1;rw[<-h3]at d2;rw[<-h4]at d4;have H4:=hid h4;by_cases hu:a.kind=10/\a.ord=false
       .have ax:=aq.out.1 hu.1;have ao:=aq.out.2 (h1.symm.trans hu.1);have HU:Hid (sameF ns (f+1) i j=(a.keys.zip a.items).all (fun x=>(b.keys.zip b.items).any (fun y=>sameF ns f x.1 y.1 && sameF ns f x.2 y.2))):=hid (by rw[C.out,ar,if_pos hu];rfl);have bh:=hid ax;have a4:=hid ao;rw[hu.1]at c0 d0;rw[hu.2]at c2 d2;have HUU:=hid hu;obtain⟨aT,aQ,aS,c3,aX,d3,bj⟩:=HS.out wc (Below.refl _ _);clear aT aQ aS aX bj;clear hu ax ao ar h1 h2 h3 h4;go_upto_region 6 with fail;clear c0 c1 c2 c3 c4 d0 d1 d2 d3 d4 ap;go_loopw [64] (fun s64 wr=>∃k:Nat,k<=a.keys.length/\s64=.int .i64 k/\Hid (Below wc.heap.size wc wr/\((a.keys.zip a.items).take k).all (fun x=>(b.keys.zip b.items).any (fun y=>sameF ns f x.1 y.1 && sameF ns f x.2 y.2))=true)) (fun s64 _=>a.keys.length-(intOf s64).toNat)
        case atStart=>exact⟨0,by omega,rfl,hid ⟨Below.refl _ _,by simp⟩⟩
        case round=>
         obtain⟨k,hk,rfl,F⟩:=hrel;obtain⟨wq,bl⟩:∃wq,wq=wr:=⟨_,rfl⟩
         subst bl;by_cases hlt:k<a.keys.length
         .have H:(k:Int)<(a.keys.length:Int):=by omega
          have r:k<a.items.length:=by have:=bh.out;omega
          have aE:(k:Int)<(a.items.length:Int):=by omega
          obtain⟨x,G⟩:=ex (a.keys[k])
          obtain⟨X,U⟩:=ex (a.items[k])
          have aK:Hid (x∈a.keys++a.items/\X∈a.keys++a.items):=hid ⟨List.mem_append_left _ (G▸List.getElem_mem hlt),List.mem_append_right _ (U▸List.getElem_mem r)⟩;obtain⟨adk,rfl,_,y0⟩:=zae (P.out wq F.out.1).1 hlt;rw[G]at y0;have Q:Hid (((a.keys.zip a.items).take (k+1)).all (fun x=>(b.keys.zip b.items).any (fun y=>sameF ns f x.1 y.1 && sameF ns f x.2 y.2))=(b.keys.zip b.items).any (fun y=>sameF ns f x y.1 && sameF ns f X y.2)):=hid (by
           rw[zb4 _ _ _ (by simp;omega),F.out.2,List.getElem_zip,G,U];rfl)
          obtain⟨g0,g1,a0,c3,c4,d3,d4⟩:=HS.out wq F.out.1;have a9:=hid G;have am:=hid U;clear G U g0 g1 a0 c3 c4 d4;go_upto_region 10 with fail;clear y0 d3;go_loopw [11,72] (fun s11 s72 wr=>∃(l:Nat) (fb:Bool),l<=b.keys.length/\s72=.int .i64 l/\s11=.bool fb/\Hid (Below wc.heap.size wc wr/\fb=((b.keys.zip b.items).take l).any (fun y=>sameF ns f x y.1 && sameF ns f X y.2))) (fun _ s72 _=>b.keys.length-(intOf s72).toNat)
          case atStart=>exact⟨0,false,by omega,rfl,rfl,hid ⟨F.out.1,by simp⟩⟩
          case round=>
           obtain⟨l,fb,hl2,rfl,rfl,HV⟩:=hrel;by_cases hll:l<b.keys.length
           .have aH:(l:Int)<(b.keys.length:Int):=by omega
            have aj:l<b.items.length:=by have:=a4.out;omega
            have hll2I:(l:Int)<(b.items.length:Int):=by omega
            obtain⟨wv,ai⟩:∃wv,wv=wr:=⟨_,rfl⟩
            subst ai;obtain⟨y,N⟩:=ex (b.keys[l])
            obtain⟨Y,R⟩:=ex (b.items[l])
            have ah:y∈b.keys++b.items:=List.mem_append_left _ (N▸List.getElem_mem hll);have I:Y∈b.keys++b.items:=List.mem_append_right _ (R▸List.getElem_mem aj);obtain⟨r1,r2,r3,r4⟩:=P.out wv HV.out.1;obtain⟨adl,rfl,hadl,z0⟩:=zae r3 hll;obtain⟨M,rfl,hadX,z1⟩:=zae r2 r;obtain⟨J,rfl,hadY,z2⟩:=zae r4 aj;rw[N]at z0;rw[am.out]at z1;rw[R]at z2;obtain⟨g0,g1,a0,c3,c4,d3,d4⟩:=HS.out wv HV.out.1;have av:Hid (((b.keys.zip b.items).take (l+1)).any (fun y=>sameF ns f x y.1 && sameF ns f X y.2)=(fb || (sameF ns f x y && sameF ns f X Y))):=hid (by
             rw[List.take_succ_eq_append_getElem (by simp;omega),List.any_append,<-HV.out.2,List.getElem_zip,N,R];simp)
            have aN:=hid (HC.out x aK.out.1 y ah);have aJ:=hid (HC.out X aK.out.2 Y I);have d:Hid (∀W,Below wc.heap.size wc W->W.cell? ⟨D,0,none⟩=some (.slice (some g) ns.length c)/\W.cell? ⟨D,1,none⟩=some (.int .i64 root)/\W.cell? ⟨g7,4,none⟩=some (.slice (some M) a.items.length ic)/\W.cell? ⟨g8,4,none⟩=some (.slice (some J) b.items.length B)/\W.cell? (M.add k)=some (.int .i64 X)/\W.cell? (J.add l)=some (.int .i64 Y)):=hid (fun W z=>by
             obtain⟨q0,q1,_,_,q4,_,q5⟩:=HS.out W z;obtain⟨_,t2,_,t4⟩:=P.out W z;obtain⟨e1,f1,_,f3⟩:=zae t2 r;obtain⟨e2,f4,_,f6⟩:=zae t4 aj;injection f1 with f1;injection f4 with f4
             subst f1;subst f4;rw[am.out]at f3;rw[R]at f6;exact⟨q0,q1,q4,q5,f3,f6⟩)
            clear r1 r2 r3 r4 ah I N R a0 c3 d3;go_upto_region 12 with fail;have o:Hid (∀W:WB wc.heap.size wc,Calls prog 43 #[.agg #[.slice (some g) ns.length c,.int .i64 root],.int .i64 x,.int .i64 y] W.w (fun e W'=>e=.returned (.bool (sameF ns f x y))/\Below wc.heap.size wc W')/\Calls prog 43 #[.agg #[.slice (some g) ns.length c,.int .i64 root],.int .i64 X,.int .i64 Y] W.w (fun e W'=>e=.returned (.bool (sameF ns f X Y))/\Below wc.heap.size wc W')):=hid (fun W=>⟨(aN.out W.w W.h).mono (fun _ _ h=>⟨h.2,h.1⟩),(aJ.out W.w W.h).mono (fun _ _ h=>⟨h.2,h.1⟩)⟩);have p1:=fun W:WB wc.heap.size wc=>(d.out W.w W.h).1
            have p2:=fun W:WB wc.heap.size wc=>(d.out W.w W.h).2.1
            have p3:=fun W:WB wc.heap.size wc=>(d.out W.w W.h).2.2.1
            have p4:=fun W:WB wc.heap.size wc=>(d.out W.w W.h).2.2.2.1
            have p5:=fun W:WB wc.heap.size wc=>(d.out W.w W.h).2.2.2.2.1
            have p6:=fun W:WB wc.heap.size wc=>(d.out W.w W.h).2.2.2.2.2
            obtain⟨s1,T⟩:=ex (sameF ns f x y)
            obtain⟨s2,s⟩:=ex (sameF ns f X Y)
            rw[T,s]at o av;clear T s aN aJ g0 g1 c4 d4 z1 z2;cases fb<;>cases s1
            all_goals
             refine zaa wc.heap.size wc (by kernel_rfl) (by kernel_rfl) HV.out.1 ?_
             repeat (go_big_quiet_step ((first| (with_reducible refine Calls.grow (o.out _).1)| (with_reducible refine Calls.grow (o.out _).2))))
             refine wpQuiet_nil ?_;rintro _ ⟨wz,rfl⟩;go_wp2;go_roundw
             case rel=>
              first
               |exact⟨l+1,true,by omega,by go_num,rfl,hid ⟨wz.h,by rw[av.out];rfl⟩⟩
               |exact⟨l+1,s2,by omega,by go_num,rfl,hid ⟨wz.h,by rw[av.out];rfl⟩⟩
               |exact⟨l+1,false,by omega,by go_num,rfl,hid ⟨wz.h,by rw[av.out];rfl⟩⟩
             case measure=>simp[intOf];omega
           .have aH:¬(l:Int)<(b.keys.length:Int):=by omega
            have an:fb=(b.keys.zip b.items).any (fun y=>sameF ns f x y.1 && sameF ns f X y.2):=by
             have:=HV.out.2;rwa[List.take_of_length_le (by simp;omega)]at this
            cases fb with
            |true=>
             have bd:Hid (((a.keys.zip a.items).take (k+1)).all (fun x=>(b.keys.zip b.items).any (fun y=>sameF ns f x.1 y.1 && sameF ns f x.2 y.2))=true):=hid (by rw[Q.out,<-an]);clear an;go_wp2;go_roundw
             case rel=>exact⟨k+1,by omega,by go_num,hid ⟨HV.out.1,bd.out⟩⟩
             case measure=>simp[intOf];omega
            |false=>
             have v:Hid (sameF ns (f+1) i j=false):=hid (by
              rw[HU.out,List.all_eq_false];refine⟨(x,X),?_,by rw[<-an];simp⟩;have h1:k<(a.keys.zip a.items).length:=by simp;omega
              have h2:(a.keys.zip a.items)[k]=(x,X):=by rw[List.getElem_zip,a9.out,am.out]
              rw[<-h2];exact List.getElem_mem h1)
             clear an;go_wp2;go_ret;rw[v.out];exact⟨rfl,m.out.trans (HV.out.1.mono m.out.size)⟩
         .have H:¬(k:Int)<(a.keys.length:Int):=by omega
          have v:Hid (sameF ns (f+1) i j=true):=hid (by
           have:=F.out.2;rw[List.take_of_length_le (by simp;omega)]at this;rw[HU.out,this])
          go_wp2;go_ret;rw[v.out];exact⟨rfl,m.out.trans (F.out.1.mono m.out.size)⟩
       .have HU:Hid (sameF ns (f+1) i j=(List.range a.items.length).all (fun k=>(a.kind != 10 || sameF ns f (a.keys.getD k 0) (b.keys.getD k 0)) && sameF ns f (a.items.getD k 0) (b.items.getD k 0))):=hid (by rw[C.out,ar,if_neg hu];rfl);have aW:Hid (a.kind=10->a.keys.length=a.items.length/\b.keys.length=b.items.length):=hid (fun e=>⟨aq.out.1 e,aq.out.2 (h1.symm.trans e)⟩);obtain⟨kd,aP⟩:=ex a.kind
        obtain⟨od,aI⟩:=ex a.ord
        rw[aP]at c0 d0 aW HS HU hu;rw[aI]at c2 d2 hu;have bg:=hid hu;clear aP aI ar h1 h2 h3 h4 hu;by_cases hk10:kd=10
        .subst hk10;cases od with
         |false=>exact absurd ⟨rfl,rfl⟩ bg.out
         |true=>
          go_upto_region 19 with fail;clear c0 c1 c2 c4 d0 d1 d2 d4;go_loopw [105] (fun s105 wr=>∃k:Nat,k<=a.items.length/\s105=.int .i64 k/\Hid (Below wc.heap.size wc wr/\(List.range k).all (fun k=>((10:Int) != 10 || sameF ns f (a.keys.getD k 0) (b.keys.getD k 0)) && sameF ns f (a.items.getD k 0) (b.items.getD k 0))=true)) (fun s105 _=>a.items.length-(intOf s105).toNat)
          case atStart=>exact⟨0,by omega,rfl,hid ⟨Below.refl _ _,by simp⟩⟩
          case round=>
           obtain⟨k,hk,rfl,F⟩:=hrel;by_cases hlt:k<a.items.length
           .have H:(k:Int)<(a.items.length:Int):=by omega
            have q:k<b.items.length:=by have:=H4.out;omega
            have aC:(k:Int)<(b.items.length:Int):=by omega
            obtain⟨ax,ao⟩:=aW.out (by trivial);have r:k<a.keys.length:=by omega
            have aE:(k:Int)<(a.keys.length:Int):=by omega
            have V:k<b.keys.length:=by have:=H4.out;omega
            have hlt3I:(k:Int)<(b.keys.length:Int):=by omega
            obtain⟨x,G⟩:=ex (a.keys[k])
            obtain⟨y,N⟩:=ex (b.keys[k])
            have aU:x∈a.keys++a.items:=List.mem_append_left _ (G▸List.getElem_mem r);have ah:y∈b.keys++b.items:=List.mem_append_left _ (N▸List.getElem_mem V);obtain⟨wv,ai⟩:∃wv,wv=wr:=⟨_,rfl⟩
            subst ai;obtain⟨X,U⟩:=ex (a.items[k])
            obtain⟨Y,R⟩:=ex (b.items[k])
            have ak:X∈a.keys++a.items:=List.mem_append_right _ (U▸List.getElem_mem hlt);have I:Y∈b.keys++b.items:=List.mem_append_right _ (R▸List.getElem_mem q);obtain⟨r1,r2,r3,r4⟩:=P.out wv F.out.1;obtain⟨aM,rfl,_,z3⟩:=zae r1 r;obtain⟨aR,rfl,_,z4⟩:=zae r3 V;obtain⟨M,rfl,_,z1⟩:=zae r2 hlt;obtain⟨J,rfl,_,z2⟩:=zae r4 q;have d:Hid (∀W,Below wc.heap.size wc W->W.cell? ⟨D,0,none⟩=some (.slice (some g) ns.length c)/\W.cell? ⟨D,1,none⟩=some (.int .i64 root)/\W.cell? ⟨g7,0,none⟩=some (.int .i64 10)/\W.cell? ⟨g7,4,none⟩=some (.slice (some M) a.items.length ic)/\W.cell? ⟨g8,4,none⟩=some (.slice (some J) b.items.length B)/\W.cell? (M.add k)=some (.int .i64 X)/\W.cell? (J.add k)=some (.int .i64 Y)/\W.cell? ⟨g7,3,none⟩=some (.slice (some aM) a.keys.length kc)/\W.cell? ⟨g8,3,none⟩=some (.slice (some aR) b.keys.length S)/\W.cell? (aM.add k)=some (.int .i64 x)/\W.cell? (aR.add k)=some (.int .i64 y)):=hid (fun W z=>by
             obtain⟨q0,q1,q2,q3,q4,q6,q5⟩:=HS.out W z;obtain⟨t1,t2,t3,t4⟩:=P.out W z;obtain⟨e1,f1,_,f3⟩:=zae t2 hlt;obtain⟨e2,f4,_,f6⟩:=zae t4 q;injection f1 with f1;injection f4 with f4
             subst f1;subst f4;rw[U]at f3;rw[R]at f6;obtain⟨e3,f7,_,f9⟩:=zae t1 r;obtain⟨e4,aG,_,aY⟩:=zae t3 V;injection f7 with f7;injection aG with aG
             subst f7;subst aG;rw[G]at f9;rw[N]at aY;exact⟨q0,q1,q2,q4,q5,f3,f6,q3,q6,f9,aY⟩)
            have o:Hid (∀W:WB wc.heap.size wc,Calls prog 43 #[.agg #[.slice (some g) ns.length c,.int .i64 root],.int .i64 x,.int .i64 y] W.w (fun e W'=>e=.returned (.bool (sameF ns f x y))/\Below wc.heap.size wc W')/\Calls prog 43 #[.agg #[.slice (some g) ns.length c,.int .i64 root],.int .i64 X,.int .i64 Y] W.w (fun e W'=>e=.returned (.bool (sameF ns f X Y))/\Below wc.heap.size wc W')):=hid (fun W=>⟨(HC.out x aU y ah W.w W.h).mono (fun _ _ h=>⟨h.2,h.1⟩),(HC.out X ak Y I W.w W.h).mono (fun _ _ h=>⟨h.2,h.1⟩)⟩);have p0:=fun W:WB wc.heap.size wc=>(d.out W.w W.h).1
            have p1:=fun W:WB wc.heap.size wc=>(d.out W.w W.h).2.1
            have p2:=fun W:WB wc.heap.size wc=>(d.out W.w W.h).2.2.1
            have p3:=fun W:WB wc.heap.size wc=>(d.out W.w W.h).2.2.2.1
            have p4:=fun W:WB wc.heap.size wc=>(d.out W.w W.h).2.2.2.2.1
            have p5:=fun W:WB wc.heap.size wc=>(d.out W.w W.h).2.2.2.2.2.1
            have p6:=fun W:WB wc.heap.size wc=>(d.out W.w W.h).2.2.2.2.2.2.1
            have p7:=fun W:WB wc.heap.size wc=>(d.out W.w W.h).2.2.2.2.2.2.2.1
            have p8:=fun W:WB wc.heap.size wc=>(d.out W.w W.h).2.2.2.2.2.2.2.2.1
            have p9:=fun W:WB wc.heap.size wc=>(d.out W.w W.h).2.2.2.2.2.2.2.2.2.1
            have bf:=fun W:WB wc.heap.size wc=>(d.out W.w W.h).2.2.2.2.2.2.2.2.2.2
            have gx:a.keys.getD k 0=x:=by rw[List.getD_eq_getElem?_getD,List.getElem?_eq_getElem r,G];rfl
            have gy:b.keys.getD k 0=y:=by rw[List.getD_eq_getElem?_getD,List.getElem?_eq_getElem V,N];rfl
            have gX:a.items.getD k 0=X:=by rw[List.getD_eq_getElem?_getD,List.getElem?_eq_getElem hlt,U];rfl
            have gY:b.items.getD k 0=Y:=by rw[List.getD_eq_getElem?_getD,List.getElem?_eq_getElem q,R];rfl
            obtain⟨s1,T⟩:=ex (sameF ns f x y)
            obtain⟨s2,s⟩:=ex (sameF ns f X Y)
            have Q:Hid ((List.range (k+1)).all (fun k=>((10:Int) != 10 || sameF ns f (a.keys.getD k 0) (b.keys.getD k 0)) && sameF ns f (a.items.getD k 0) (b.items.getD k 0))=(s1 && s2)):=hid (by rw[List.range_succ,List.all_append,F.out.2];simp only[List.all_cons,List.all_nil,Bool.true_and,Bool.and_true,gx,gy,gX,gY,T,s,bne_self_eq_false,Bool.false_or]);have ay:Hid ((s1 && s2)=false->sameF ns (f+1) i j=false):=hid (fun e=>by
             rw[HU.out,List.all_eq_false];exact⟨k,List.mem_range.2 hlt,by simp only[gx,gy,gX,gY,T,s,bne_self_eq_false,Bool.false_or];rw[e];simp⟩)
            rw[T,s]at o;clear gx gy gX gY T s r1 r2 r3 r4 z1 z2 G N aU ah ax ao z3 z4 U R ak I;go_upto_region 21 with fail;cases s1<;>cases s2
            all_goals
             refine zaa wc.heap.size wc (by kernel_rfl) (by kernel_rfl) F.out.1 ?_
             repeat (go_big_quiet_step (((first| (with_reducible refine Calls.grow (o.out _).1)| (with_reducible refine Calls.grow (o.out _).2)))))
             refine wpQuiet_nil ?_;rintro _ ⟨wz,rfl⟩;clear p0 p1 p2 p3 p4 p5 p6 p7 p8 p9 bf;go_wp2_with fail
            all_goals first
             | (go_ret
                rw[ay.out (by first|rfl|trivial)];exact⟨rfl,m.out.trans (wz.h.mono m.out.size)⟩)
             | (go_roundw
                case rel=>exact⟨k+1,by omega,by go_num,hid ⟨wz.h,by first| (rw[Q.out];done)| (rw[Q.out];rfl)⟩⟩
                case measure=>simp[intOf];omega)
           .have H:¬(k:Int)<(a.items.length:Int):=by omega
            have v:Hid (sameF ns (f+1) i j=true):=hid (by
             have:=F.out.2;rw[show k=a.items.length from by omega]at this;rw[HU.out,this])
            go_wp2;go_ret;rw[v.out];exact⟨rfl,m.out.trans (F.out.1.mono m.out.size)⟩
        .have aA:(kd==10)=false:=by simpa using hk10
         have aO:(kd != 10)=true:=by simp[bne,aA]
         go_upto_region 19 with fail;clear c0 c1 c2 c4 d0 d1 d2 d4;go_loopw [105] (fun s105 wr=>∃k:Nat,k<=a.items.length/\s105=.int .i64 k/\Hid (Below wc.heap.size wc wr/\(List.range k).all (fun k=>(kd != 10 || sameF ns f (a.keys.getD k 0) (b.keys.getD k 0)) && sameF ns f (a.items.getD k 0) (b.items.getD k 0))=true)) (fun s105 _=>a.items.length-(intOf s105).toNat)
         case atStart=>exact⟨0,by omega,rfl,hid ⟨Below.refl _ _,by simp⟩⟩
         case round=>
          obtain⟨k,hk,rfl,F⟩:=hrel;by_cases hlt:k<a.items.length
          .have H:(k:Int)<(a.items.length:Int):=by omega
           have q:k<b.items.length:=by have:=H4.out;omega
           have aC:(k:Int)<(b.items.length:Int):=by omega
           obtain⟨wv,ai⟩:∃wv,wv=wr:=⟨_,rfl⟩
           subst ai;obtain⟨X,U⟩:=ex (a.items[k])
           obtain⟨Y,R⟩:=ex (b.items[k])
           have ak:X∈a.keys++a.items:=List.mem_append_right _ (U▸List.getElem_mem hlt);have I:Y∈b.keys++b.items:=List.mem_append_right _ (R▸List.getElem_mem q);obtain⟨r1,r2,r3,r4⟩:=P.out wv F.out.1;obtain⟨M,rfl,_,z1⟩:=zae r2 hlt;obtain⟨J,rfl,_,z2⟩:=zae r4 q;have d:Hid (∀W,Below wc.heap.size wc W->W.cell? ⟨D,0,none⟩=some (.slice (some g) ns.length c)/\W.cell? ⟨D,1,none⟩=some (.int .i64 root)/\W.cell? ⟨g7,0,none⟩=some (.int .i64 kd)/\W.cell? ⟨g7,4,none⟩=some (.slice (some M) a.items.length ic)/\W.cell? ⟨g8,4,none⟩=some (.slice (some J) b.items.length B)/\W.cell? (M.add k)=some (.int .i64 X)/\W.cell? (J.add k)=some (.int .i64 Y)):=hid (fun W z=>by
            obtain⟨q0,q1,q2,q3,q4,q6,q5⟩:=HS.out W z;obtain⟨t1,t2,t3,t4⟩:=P.out W z;obtain⟨e1,f1,_,f3⟩:=zae t2 hlt;obtain⟨e2,f4,_,f6⟩:=zae t4 q;injection f1 with f1;injection f4 with f4
            subst f1;subst f4;rw[U]at f3;rw[R]at f6;exact⟨q0,q1,q2,q4,q5,f3,f6⟩)
           have o:Hid (∀W:WB wc.heap.size wc,True/\Calls prog 43 #[.agg #[.slice (some g) ns.length c,.int .i64 root],.int .i64 X,.int .i64 Y] W.w (fun e W'=>e=.returned (.bool (sameF ns f X Y))/\Below wc.heap.size wc W')):=hid (fun W=>⟨trivial,(HC.out X ak Y I W.w W.h).mono (fun _ _ h=>⟨h.2,h.1⟩)⟩);have p0:=fun W:WB wc.heap.size wc=>(d.out W.w W.h).1
           have p1:=fun W:WB wc.heap.size wc=>(d.out W.w W.h).2.1
           have p2:=fun W:WB wc.heap.size wc=>(d.out W.w W.h).2.2.1
           have p3:=fun W:WB wc.heap.size wc=>(d.out W.w W.h).2.2.2.1
           have p4:=fun W:WB wc.heap.size wc=>(d.out W.w W.h).2.2.2.2.1
           have p5:=fun W:WB wc.heap.size wc=>(d.out W.w W.h).2.2.2.2.2.1
           have p6:=fun W:WB wc.heap.size wc=>(d.out W.w W.h).2.2.2.2.2.2
           have gX:a.items.getD k 0=X:=by rw[List.getD_eq_getElem?_getD,List.getElem?_eq_getElem hlt,U];rfl
           have gY:b.items.getD k 0=Y:=by rw[List.getD_eq_getElem?_getD,List.getElem?_eq_getElem q,R];rfl
           obtain⟨s2,s⟩:=ex (sameF ns f X Y)
           have Q:Hid ((List.range (k+1)).all (fun k=>(kd != 10 || sameF ns f (a.keys.getD k 0) (b.keys.getD k 0)) && sameF ns f (a.items.getD k 0) (b.items.getD k 0))=s2):=hid (by rw[List.range_succ,List.all_append,F.out.2];simp only[List.all_cons,List.all_nil,Bool.true_and,Bool.and_true,gX,gY,s,aO,Bool.true_or]);have ay:Hid (s2=false->sameF ns (f+1) i j=false):=hid (fun e=>by
            rw[HU.out,List.all_eq_false];exact⟨k,List.mem_range.2 hlt,by simp only[gX,gY,s,aO,Bool.true_or,Bool.true_and];rw[e];simp⟩)
           rw[s]at o;clear gX gY s r1 r2 r3 r4 z1 z2 U R ak I;go_upto_region 21 with fail;cases s2
           all_goals
            refine zaa wc.heap.size wc (by kernel_rfl) (by kernel_rfl) F.out.1 ?_
            repeat (go_big_quiet_step (((with_reducible refine Calls.grow (o.out _).2))))
            refine wpQuiet_nil ?_;rintro _ ⟨wz,rfl⟩;clear p0 p1 p2 p3 p4 p5 p6;go_wp2_with fail
           all_goals first
            | (go_ret
               rw[ay.out (by first|rfl|trivial)];exact⟨rfl,m.out.trans (wz.h.mono m.out.size)⟩)
            | (go_roundw
               case rel=>exact⟨k+1,by omega,by go_num,hid ⟨wz.h,by first| (rw[Q.out];done)| (rw[Q.out];rfl)⟩⟩
               case measure=>simp[intOf];omega)
          .have H:¬(k:Int)<(a.items.length:Int):=by omega
           have v:Hid (sameF ns (f+1) i j=true):=hid (by
            have:=F.out.2;rw[show k=a.items.length from by omega]at this;rw[HU.out,this])
           go_wp2;go_ret;rw[v.out];exact⟨rfl,m.out.trans (F.out.1.mono m.out.size)⟩
      .have a8:¬((a.items.length:Int)=(b.items.length:Int)):=by omega
       have h4b:((a.items.length:Int)==(b.items.length:Int))=false:=by simpa using a8
       have ap:((⟨a.text.toArray⟩:ByteArray)==⟨a.text.toArray⟩)=true:=by rw[str_eq];simp
       have HF:Hid (sameF ns (f+1) i j=false):=hid (by rw[C.out];simp[diff,h4]);rw[<-h1]at d0;rw[<-h2]at d1;rw[<-h3]at d2;clear h1 h2 h3 h4;go_wp2;go_ret;rw[HF.out];exact⟨rfl,m.out⟩
     .have HF:Hid (sameF ns (f+1) i j=false):=hid (by rw[C.out];simp[diff,h3]);have ap:((⟨a.text.toArray⟩:ByteArray)==⟨a.text.toArray⟩)=true:=by rw[str_eq];simp
      rw[<-h1]at d0;rw[<-h2]at d1;obtain⟨x,G⟩:=ex a.ord
      obtain⟨y,N⟩:=ex b.ord
      rw[G]at c2 h3;rw[N]at d2 h3;clear h1 h2 G N;cases x<;>cases y<;>first|exact absurd rfl h3|skip
      all_goals
       clear h3;go_wp2;go_ret;rw[HF.out];exact⟨rfl,m.out⟩
    .have HF:Hid (sameF ns (f+1) i j=false):=hid (by rw[C.out];simp[diff,h2]);have ap:((⟨a.text.toArray⟩:ByteArray)==⟨b.text.toArray⟩)=false:=by rw[str_eq];simpa using h2
     rw[<-h1]at d0;clear h1;go_wp2;go_ret;rw[HF.out];exact⟨rfl,m.out⟩
   .have HF:Hid (sameF ns (f+1) i j=false):=hid (by rw[C.out];simp[diff,h1]);have h1b:(a.kind==b.kind)=false:=by simpa using h1
    go_wp2;go_ret;rw[HF.out];exact⟨rfl,m.out⟩
end Go.Proofs.YtpjmhafmeieloaaGreatDoor

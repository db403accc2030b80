import Derived.Test.YtpgmfihonmoliaaGreatDoorZ12
namespace Go.Proofs.YtpgmfihonmoliaaGreatDoor
open Gr
open _root_.Go.Proofs.Tryz
open _root_.Go.Lib (hid)
set_option maxRecDepth 100000
set_option maxHeartbeats 16000000
namespace Gr
def Tall (ns:List Nd):Nat->Nat->Prop
 | 0,_=>False
 |f+1,i=>∀x∈succ ns i,Tall ns f x
def KF (ns:List Nd):Prop:=∀n∈ns,n.kind=10->n.keys.length=n.items.length
end Gr
open Go.RowKit
theorem str_eq (s t:Gr.Str):((⟨s.toArray⟩:ByteArray)==⟨t.toArray⟩)=(s==t):=by
 show(s.toArray==t.toArray)=_;simp
theorem zvd {ns:List Gr.Nd} {i:Nat} (h:i<ns.length):Gr.succ ns i=ns[i].keys++ns[i].items:=by
 unfold Gr.succ;rw[List.getElem?_eq_getElem h]
def diff (a b:Gr.Nd):Bool:=a.kind != b.kind || a.text != b.text || a.ord != b.ord || a.items.length != b.items.length
theorem zl2 {ns:List Gr.Nd} {f i j:Nat} (hi:i<ns.length) (hj:j<ns.length):sameF ns (f+1) i j=(!diff ns[i] ns[j] && (if ns[i].kind=10/\ns[i].ord=false then(ns[i].keys.zip ns[i].items).all (fun x=>(ns[j].keys.zip ns[j].items).any (fun y=>sameF ns f x.1 y.1 && sameF ns f x.2 y.2))
 else(List.range ns[i].items.length).all (fun k=>(ns[i].kind != 10 || sameF ns f (ns[i].keys.getD k 0) (ns[j].keys.getD k 0)) && sameF ns f (ns[i].items.getD k 0) (ns[j].items.getD k 0)))):=by
 rw[sameF,List.getElem?_eq_getElem hi,List.getElem?_eq_getElem hj];simp only;by_cases hd:ns[i].kind≠ns[j].kind\/ns[i].text≠ns[j].text\/ns[i].ord≠ns[j].ord\/ns[i].items.length≠ns[j].items.length
 .rw[if_pos hd];have:diff ns[i] ns[j]=true:=by
   unfold diff;rcases hd with h|h|h|h<;>simp[h]
  rw[this];rfl
 .rw[if_neg hd];have:diff ns[i] ns[j]=false:=by
   simp only[not_or,Classical.not_not]at hd;unfold diff;simp[hd.1,hd.2.1,hd.2.2.1,hd.2.2.2]
  rw[this];simp
theorem zsg (A:Option Addr) (c:Nat) (root:Int) (vs:List NV) (ns:List Gr.Nd) (hr:Refs ns) (hkf:Gr.KF ns) (_hl:ns.length<=1073741823) (hks:∀n∈ns,n.keys.length<=1073741823/\n.items.length<=1073741823/\n.text.length<=1073741823):
 ∀(f i j:Nat) (w:World),i<ns.length->j<ns.length->Tall ns f i->GAt w w.heap.size A vs ns->
 Calls prog 50 #[.agg #[.slice A ns.length c,.int .i64 root],.int .i64 i,.int .i64 j] w fun e w'=>e=.returned (.bool (sameF ns f i j))/\Below w.heap.size w w':=by
 intro f
 induction f with
 |zero=>intro i j w _ _ h;exact h.elim
 |succ f ih=>
  intro i j w hi hj hT h;have ag:=zl2 (f:=f) hi hj;have aT:=zvd hi;have aa:ns[i]∈ns:=List.getElem_mem hi;have Z:ns[j]∈ns:=List.getElem_mem hj;obtain⟨bl,bg,a6⟩:=hks _ aa;obtain⟨a5,a2,ba⟩:=hks _ Z;have aF:=hr _ aa;have aD:=hr _ Z;have ay:=hkf _ aa;have aE:=hkf _ Z;have aP:Hid (∀x∈ns[i].keys++ns[i].items,∀y∈ns[j].keys++ns[j].items,∀W,GAt W W.heap.size A vs ns->Calls prog 50 #[.agg #[.slice A ns.length c,.int .i64 root],.int .i64 x,.int .i64 y] W fun e w'=>e=.returned (.bool (sameF ns f x y))/\Below W.heap.size W w'):=hid (fun x F y O W B=>
   ih x y W (aF x F) (aD y O) (hT x (by rw[aT];exact F)) B)
  obtain⟨g,ks,is,rfl,s⟩:=h.node hi;obtain⟨ka,kn,kc⟩:=ks;obtain⟨ia,bd,ic⟩:=is;obtain⟨ad',a8,bk,ai,u⟩:=h.node hj;injection ai with ai
  subst ai;obtain⟨L,bb,Q⟩:=a8;obtain⟨E,aQ,z⟩:=bk;obtain⟨a,ha⟩:=ex (ns[i])
  obtain⟨b,hb⟩:=ex (ns[j])
  rw[ha,hb]at ag aP;rw[ha]at s bl bg a6 aF ay;rw[hb]at u a5 a2 ba aD aE;obtain rfl:kn=a.keys.length:=s.kn;obtain rfl:bd=a.items.length:=s.inn;obtain rfl:bb=b.keys.length:=u.kn;obtain rfl:aQ=b.items.length:=u.inn;obtain⟨p,ax⟩:=ex (w.alloc (.cells #[.slice (some g) ns.length c,.int .i64 root] 24))
  have H:Below w.heap.size w p:=by rw[<-ax];exact(Below.refl _ _).alloc (Nat.le_refl _) _
  have b1:Blk p w.heap.size 24 #[.slice (some g) ns.length c,.int .i64 root]:=by rw[<-ax];exact Blk.new _ _ _
  obtain⟨C,af⟩:=ex w.heap.size
  have HGB:=hid af;rw[af]at b1;have g0:p.cell? ⟨C,0,none⟩=some (.slice (some g) ns.length c):=b1.cell 0;have ab:=s.lt;have ac:=u.lt;have c0:p.cell? (g.add (i*5))=some (.int .i64 a.kind):=(H.cell ab).trans s.c0;have c1:p.cell? {block:=(g.add (i*5)).block,off:=(g.add (i*5)).off+1}=some (.string ⟨a.text.toArray⟩):=(H.cell (by exact ab)).trans s.c1;have c2:p.cell? {block:=(g.add (i*5)).block,off:=(g.add (i*5)).off+2}=some (.bool a.ord):=(H.cell (by exact ab)).trans s.c2;have c3:p.cell? {block:=(g.add (i*5)).block,off:=(g.add (i*5)).off+3}=some (.slice ka a.keys.length kc):=(H.cell (by exact ab)).trans s.c3;have c4:p.cell? {block:=(g.add (i*5)).block,off:=(g.add (i*5)).off+4}=some (.slice ia a.items.length ic):=(H.cell (by exact ab)).trans s.c4;have d0:p.cell? (g.add (j*5))=some (.int .i64 b.kind):=(H.cell ac).trans u.c0;have d1:p.cell? {block:=(g.add (j*5)).block,off:=(g.add (j*5)).off+1}=some (.string ⟨b.text.toArray⟩):=(H.cell (by exact ac)).trans u.c1;have d2:p.cell? {block:=(g.add (j*5)).block,off:=(g.add (j*5)).off+2}=some (.bool b.ord):=(H.cell (by exact ac)).trans u.c2;have d3:p.cell? {block:=(g.add (j*5)).block,off:=(g.add (j*5)).off+3}=some (.slice L b.keys.length Q):=(H.cell (by exact ac)).trans u.c3;have d4:p.cell? {block:=(g.add (j*5)).block,off:=(g.add (j*5)).off+4}=some (.slice E b.items.length z):=(H.cell (by exact ac)).trans u.c4;have aq:Hid (RowAt intL p C ka a.keys/\RowAt intL p C ia a.items/\RowAt intL p C L b.keys/\RowAt intL p C E b.items):=hid (by
   rw[<-af];exact⟨s.keys.below H,s.items.below H,u.keys.below H,u.items.below H⟩)
  have a4:Hid (GAt p C (some g) vs ns):=hid (by rw[<-af];exact h.below H);have L1:=hid H;have bc:=hid b1;have ae:=hid b1.lt;have D:=hid ag;have ar:=hid (And.intro ay aE);have hiI:(i:Int)<(ns.length:Int):=by omega
  have hjI:(j:Int)<(ns.length:Int):=by omega
  clear ih hT h ag aT aa Z aF aD ay aE s u ha hb H b1 ab ac;go_enter func50,ntmps50;go_upto_region 1 with fail;(try rw[ax]);(try rw[af]);clear ax af;go_cut [7,8] (fun s7 s8 wx=>∃g7 g8,s7=.pointer (some ⟨g7,0,none⟩)/\s8=.pointer (some ⟨g8,0,none⟩)/\Hid (Blk wx g7 38 #[.int .i64 a.kind,.string ⟨a.text.toArray⟩,.bool a.ord,.slice ka a.keys.length kc,.slice ia a.items.length ic]/\Blk wx g8 38 #[.int .i64 b.kind,.string ⟨b.text.toArray⟩,.bool b.ord,.slice L b.keys.length Q,.slice E b.items.length z]/\Below p.heap.size p wx))
  case first=>
   go_region_held3 (fun w'=>w'.cell? ⟨C,0,none⟩=some (.slice (some g) ns.length c)/\
    w'.cell? (g.add (i*5))=some (.int .i64 a.kind)/\w'.cell? {block:=(g.add (i*5)).block,off:=(g.add (i*5)).off+1}=some (.string ⟨a.text.toArray⟩)/\w'.cell? {block:=(g.add (i*5)).block,off:=(g.add (i*5)).off+2}=some (.bool a.ord)/\
    w'.cell? {block:=(g.add (i*5)).block,off:=(g.add (i*5)).off+3}=some (.slice ka a.keys.length kc)/\w'.cell? {block:=(g.add (i*5)).block,off:=(g.add (i*5)).off+4}=some (.slice ia a.items.length ic)/\
    w'.cell? (g.add (j*5))=some (.int .i64 b.kind)/\w'.cell? {block:=(g.add (j*5)).block,off:=(g.add (j*5)).off+1}=some (.string ⟨b.text.toArray⟩)/\w'.cell? {block:=(g.add (j*5)).block,off:=(g.add (j*5)).off+2}=some (.bool b.ord)/\
    w'.cell? {block:=(g.add (j*5)).block,off:=(g.add (j*5)).off+3}=some (.slice L b.keys.length Q)/\w'.cell? {block:=(g.add (j*5)).block,off:=(g.add (j*5)).off+4}=some (.slice E b.items.length z))
     (first|go_keep| (simp[go_sem])) (fail)
   all_goals
    go_wp2;go_meet
   .refine⟨p.heap.size,p.heap.size+1,rfl,rfl,hid ⟨(Blk.new _ _ _).alloc _,?_,((((Below.refl p.heap.size p).alloc (Nat.le_refl _) _).alloc (by simp) _).drew)⟩⟩;have:=Blk.new (p.alloc (.cells #[.int .i64 a.kind,.string ⟨a.text.toArray⟩,.bool a.ord,.slice ka a.keys.length kc,.slice ia a.items.length ic] 38)) 38 #[.int .i64 b.kind,.string ⟨b.text.toArray⟩,.bool b.ord,.slice L b.keys.length Q,.slice E b.items.length z];rw[World.size_alloc]at this;exact this
   .refine⟨p.heap.size+1,p.heap.size,rfl,rfl,hid ⟨?_,(Blk.new _ _ _).alloc _,((((Below.refl p.heap.size p).alloc (Nat.le_refl _) _).alloc (by simp) _).drew)⟩⟩;have:=Blk.new (p.alloc (.cells #[.int .i64 b.kind,.string ⟨b.text.toArray⟩,.bool b.ord,.slice L b.keys.length Q,.slice E b.items.length z] 38)) 38 #[.int .i64 a.kind,.string ⟨a.text.toArray⟩,.bool a.ord,.slice ka a.keys.length kc,.slice ia a.items.length ic];rw[World.size_alloc]at this;exact this
  case rest=>
   rename_i wOld;obtain⟨g7,g8,rfl,rfl,N⟩:=hcut;clear c0 c1 c2 c3 c4 d0 d1 d2 d3 d4 g0;have m:Hid (Below w.heap.size w wc):=hid (L1.out.trans (N.out.2.2.mono L1.out.size));obtain⟨c0,c1,c2⟩:=cells3 N.out.1;have c4:wc.cell? ⟨g7,4,none⟩=some (.slice ia a.items.length ic):=N.out.1.cell 4;obtain⟨d0,d1,d2⟩:=cells3 N.out.2.1;have d4:wc.cell? ⟨g8,4,none⟩=some (.slice E b.items.length z):=N.out.2.1.cell 4;by_cases h1:a.kind=b.kind
   .by_cases h2:a.text=b.text
    .by_cases h3:a.ord=b.ord
     .by_cases h4:a.items.length=b.items.length
      .have HC:Hid (∀x∈a.keys++a.items,∀y∈b.keys++b.items,∀W,Below wc.heap.size wc W->Calls prog 50 #[.agg #[.slice (some g) ns.length c,.int .i64 root],.int .i64 x,.int .i64 y] W fun e W'=>Below wc.heap.size wc W'/\e=.returned (.bool (sameF ns f x y))):=hid (fun x F y O W B=>
        (aP.out x F y O W (((a4.out.below (N.out.2.2.mono (by have:=ae.out;omega))).below (B.mono (by have:=ae.out;have:=N.out.2.2.size;omega))).more (by have:=ae.out;have:=N.out.2.2.size;have:=B.size;omega))).mono (fun e w' h=>⟨B.trans (h.2.mono B.size),h.1⟩))
       have HS:Hid (∀W,Below wc.heap.size wc W->W.cell? ⟨C,0,none⟩=some (.slice (some g) ns.length c)/\W.cell? ⟨C,1,none⟩=some (.int .i64 root)/\W.cell? ⟨g7,0,none⟩=some (.int .i64 a.kind)/\W.cell? ⟨g7,3,none⟩=some (.slice ka a.keys.length kc)/\W.cell? ⟨g7,4,none⟩=some (.slice ia a.items.length ic)/\W.cell? ⟨g8,3,none⟩=some (.slice L b.keys.length Q)/\W.cell? ⟨g8,4,none⟩=some (.slice E b.items.length z)):=hid (fun W B=>by
        have q0:=(bc.out.below N.out.2.2 ae.out).below B (by have:=ae.out;have:=N.out.2.2.size;omega);have q1:=N.out.1.below B N.out.1.lt;have q2:=N.out.2.1.below B N.out.2.1.lt;exact⟨q0.cell 0,q0.cell 1,q1.cell 0,q1.cell 3,q1.cell 4,q2.cell 3,q2.cell 4⟩)
       have T:Hid (∀W,Below wc.heap.size wc W->RowAt intL W C ka a.keys/\RowAt intL W C ia a.items/\RowAt intL W C L b.keys/\RowAt intL W C E b.items):=hid (fun W B=>by
        have l:=N.out.2.2.trans (B.mono N.out.2.2.size);have l2:=l.mono (show C<=p.heap.size by have:=ae.out;omega);exact⟨aq.out.1.below l2,aq.out.2.1.below l2,aq.out.2.2.1.below l2,aq.out.2.2.2.below l2⟩)
       have aw:diff a b=false:=by unfold diff;simp[h1,h2,h3,h4]
       have an:((⟨a.text.toArray⟩:ByteArray)==⟨a.text.toArray⟩)=true:=by rw[str_eq];simp
       rw[<-h1]at d0;rw[<-h2]at d1;rw[<-h3]at d2;rw[<-h4]at d4;have H4:=hid h4;by_cases hu:a.kind=10/\a.ord=false
       .have ap:=ar.out.1 hu.1;have av:=ar.out.2 (h1.symm.trans hu.1);have HU:Hid (sameF ns (f+1) i j=(a.keys.zip a.items).all (fun x=>(b.keys.zip b.items).any (fun y=>sameF ns f x.1 y.1 && sameF ns f x.2 y.2))):=hid (by rw[D.out,aw,if_pos hu];rfl);have a9:=hid ap;have bi:=hid av;rw[hu.1]at c0 d0;rw[hu.2]at c2 d2;have HUU:=hid hu;obtain⟨aI,aK,aV,c3,aY,d3,a3⟩:=HS.out wc (Below.refl _ _);clear aI aK aV aY a3;clear hu ap av aw h1 h2 h3 h4;go_upto_region 6 with fail;clear c0 c1 c2 c3 c4 d0 d1 d2 d3 d4 an;go_loopw [64] (fun s64 wr=>∃k:Nat,k<=a.keys.length/\s64=.int .i64 k/\Hid (Below wc.heap.size wc wr/\((a.keys.zip a.items).take k).all (fun x=>(b.keys.zip b.items).any (fun y=>sameF ns f x.1 y.1 && sameF ns f x.2 y.2))=true)) (fun s64 _=>a.keys.length-(intOf s64).toNat)
        case atStart=>exact⟨0,by omega,rfl,hid ⟨Below.refl _ _,by simp⟩⟩
        case round=>
         obtain⟨k,hk,rfl,G⟩:=hrel;obtain⟨wq,bj⟩:∃wq,wq=wr:=⟨_,rfl⟩
         subst bj;by_cases hlt:k<a.keys.length
         .have K:(k:Int)<(a.keys.length:Int):=by omega
          have r:k<a.items.length:=by have:=a9.out;omega
          have aB:(k:Int)<(a.items.length:Int):=by omega
          obtain⟨x,F⟩:=ex (a.keys[k])
          obtain⟨X,U⟩:=ex (a.items[k])
          have aR:Hid (x∈a.keys++a.items/\X∈a.keys++a.items):=hid ⟨List.mem_append_left _ (F▸List.getElem_mem hlt),List.mem_append_right _ (U▸List.getElem_mem r)⟩;obtain⟨adk,rfl,_,y0⟩:=zaf (T.out wq G.out.1).1 hlt;rw[F]at y0;have R:Hid (((a.keys.zip a.items).take (k+1)).all (fun x=>(b.keys.zip b.items).any (fun y=>sameF ns f x.1 y.1 && sameF ns f x.2 y.2))=(b.keys.zip b.items).any (fun y=>sameF ns f x y.1 && sameF ns f X y.2)):=hid (by
           rw[zb3 _ _ _ (by simp;omega),G.out.2,List.getElem_zip,F,U];rfl)
          obtain⟨g0,g1,a0,c3,c4,d3,d4⟩:=HS.out wq G.out.1;have be:=hid F;have al:=hid U;clear F U g0 g1 a0 c3 c4 d4;go_upto_region 10 with fail;clear y0 d3;go_loopw [11,72] (fun s11 s72 wr=>∃(l:Nat) (fb:Bool),l<=b.keys.length/\s72=.int .i64 l/\s11=.bool fb/\Hid (Below wc.heap.size wc wr/\fb=((b.keys.zip b.items).take l).any (fun y=>sameF ns f x y.1 && sameF ns f X y.2))) (fun _ s72 _=>b.keys.length-(intOf s72).toNat)
          case atStart=>exact⟨0,false,by omega,rfl,rfl,hid ⟨G.out.1,by simp⟩⟩
          case round=>
           obtain⟨l,fb,hl2,rfl,rfl,HV⟩:=hrel;by_cases hll:l<b.keys.length
           .have aN:(l:Int)<(b.keys.length:Int):=by omega
            have am:l<b.items.length:=by have:=bi.out;omega
            have hll2I:(l:Int)<(b.items.length:Int):=by omega
            obtain⟨wv,ah⟩:∃wv,wv=wr:=⟨_,rfl⟩
            subst ah;obtain⟨y,O⟩:=ex (b.keys[l])
            obtain⟨Y,S⟩:=ex (b.items[l])
            have aj:y∈b.keys++b.items:=List.mem_append_left _ (O▸List.getElem_mem hll);have J:Y∈b.keys++b.items:=List.mem_append_right _ (S▸List.getElem_mem am);obtain⟨r1,r2,r3,r4⟩:=T.out wv HV.out.1;obtain⟨adl,rfl,hadl,z0⟩:=zaf r3 hll;obtain⟨M,rfl,hadX,z1⟩:=zaf r2 r;obtain⟨I,rfl,hadY,z2⟩:=zaf r4 am;rw[O]at z0;rw[al.out]at z1;rw[S]at z2;obtain⟨g0,g1,a0,c3,c4,d3,d4⟩:=HS.out wv HV.out.1;have ao:Hid (((b.keys.zip b.items).take (l+1)).any (fun y=>sameF ns f x y.1 && sameF ns f X y.2)=(fb || (sameF ns f x y && sameF ns f X Y))):=hid (by
             rw[List.take_succ_eq_append_getElem (by simp;omega),List.any_append,<-HV.out.2,List.getElem_zip,O,S];simp)
            have aW:=hid (HC.out x aR.out.1 y aj);have aS:=hid (HC.out X aR.out.2 Y J);have d:Hid (∀W,Below wc.heap.size wc W->W.cell? ⟨C,0,none⟩=some (.slice (some g) ns.length c)/\W.cell? ⟨C,1,none⟩=some (.int .i64 root)/\W.cell? ⟨g7,4,none⟩=some (.slice (some M) a.items.length ic)/\W.cell? ⟨g8,4,none⟩=some (.slice (some I) b.items.length z)/\W.cell? (M.add k)=some (.int .i64 X)/\W.cell? (I.add l)=some (.int .i64 Y)):=hid (fun W B=>by
             obtain⟨q0,q1,_,_,q4,_,q5⟩:=HS.out W B;obtain⟨_,t2,_,t4⟩:=T.out W B;obtain⟨e1,f1,_,f3⟩:=zaf t2 r;obtain⟨e2,f4,_,f6⟩:=zaf t4 am;injection f1 with f1;injection f4 with f4
             subst f1;subst f4;rw[al.out]at f3;rw[S]at f6;exact⟨q0,q1,q4,q5,f3,f6⟩)
            clear r1 r2 r3 r4 aj J O S a0 c3 d3;go_upto_region 12 with fail;have o:Hid (∀W:WB wc.heap.size wc,Calls prog 50 #[.agg #[.slice (some g) ns.length c,.int .i64 root],.int .i64 x,.int .i64 y] W.w (fun e W'=>e=.returned (.bool (sameF ns f x y))/\Below wc.heap.size wc W')/\Calls prog 50 #[.agg #[.slice (some g) ns.length c,.int .i64 root],.int .i64 X,.int .i64 Y] W.w (fun e W'=>e=.returned (.bool (sameF ns f X Y))/\Below wc.heap.size wc W')):=hid (fun W=>⟨(aW.out W.w W.h).mono (fun _ _ h=>⟨h.2,h.1⟩),(aS.out W.w W.h).mono (fun _ _ h=>⟨h.2,h.1⟩)⟩);have p1:=fun W:WB wc.heap.size wc=>(d.out W.w W.h).1
            have p2:=fun W:WB wc.heap.size wc=>(d.out W.w W.h).2.1
            have p3:=fun W:WB wc.heap.size wc=>(d.out W.w W.h).2.2.1
            have p4:=fun W:WB wc.heap.size wc=>(d.out W.w W.h).2.2.2.1
            have p5:=fun W:WB wc.heap.size wc=>(d.out W.w W.h).2.2.2.2.1
            have p6:=fun W:WB wc.heap.size wc=>(d.out W.w W.h).2.2.2.2.2
            obtain⟨s1,P⟩:=ex (sameF ns f x y)
            obtain⟨s2,t⟩:=ex (sameF ns f X Y)
            rw[P,t]at o ao;clear P t aW aS g0 g1 c4 d4 z1 z2;cases fb<;>cases s1
            all_goals
             refine zac wc.heap.size wc (by kernel_rfl) (by kernel_rfl) HV.out.1 ?_
             repeat (go_big_quiet_step ((first| (with_reducible refine Calls.grow (o.out _).1)| (with_reducible refine Calls.grow (o.out _).2))))
             refine wpQuiet_nil ?_;rintro _ ⟨wz,rfl⟩;go_wp2;go_roundw
             case rel=>
              first
               |exact⟨l+1,true,by omega,by go_num,rfl,hid ⟨wz.h,by rw[ao.out];rfl⟩⟩
               |exact⟨l+1,s2,by omega,by go_num,rfl,hid ⟨wz.h,by rw[ao.out];rfl⟩⟩
               |exact⟨l+1,false,by omega,by go_num,rfl,hid ⟨wz.h,by rw[ao.out];rfl⟩⟩
             case measure=>simp[intOf];omega
           .have aN:¬(l:Int)<(b.keys.length:Int):=by omega
            have au:fb=(b.keys.zip b.items).any (fun y=>sameF ns f x y.1 && sameF ns f X y.2):=by
             have:=HV.out.2;rwa[List.take_of_length_le (by simp;omega)]at this
            cases fb with
            |true=>
             have a7:Hid (((a.keys.zip a.items).take (k+1)).all (fun x=>(b.keys.zip b.items).any (fun y=>sameF ns f x.1 y.1 && sameF ns f x.2 y.2))=true):=hid (by rw[R.out,<-au]);clear au;go_wp2;go_roundw
             case rel=>exact⟨k+1,by omega,by go_num,hid ⟨HV.out.1,a7.out⟩⟩
             case measure=>simp[intOf];omega
            |false=>
             have v:Hid (sameF ns (f+1) i j=false):=hid (by
              rw[HU.out,List.all_eq_false];refine⟨(x,X),?_,by rw[<-au];simp⟩;have h1:k<(a.keys.zip a.items).length:=by simp;omega
              have h2:(a.keys.zip a.items)[k]=(x,X):=by rw[List.getElem_zip,be.out,al.out]
              rw[<-h2];exact List.getElem_mem h1)
             clear au;go_wp2;go_ret;rw[v.out];exact⟨rfl,m.out.trans (HV.out.1.mono m.out.size)⟩
         .have K:¬(k:Int)<(a.keys.length:Int):=by omega
          have v:Hid (sameF ns (f+1) i j=true):=hid (by
           have:=G.out.2;rw[List.take_of_length_le (by simp;omega)]at this;rw[HU.out,this])
          go_wp2;go_ret;rw[v.out];exact⟨rfl,m.out.trans (G.out.1.mono m.out.size)⟩
       .have HU:Hid (sameF ns (f+1) i j=(List.range a.items.length).all (fun k=>(a.kind != 10 || sameF ns f (a.keys.getD k 0) (b.keys.getD k 0)) && sameF ns f (a.items.getD k 0) (b.items.getD k 0))):=hid (by rw[D.out,aw,if_neg hu];rfl);have aM:Hid (a.kind=10->a.keys.length=a.items.length/\b.keys.length=b.items.length):=hid (fun e=>⟨ar.out.1 e,ar.out.2 (h1.symm.trans e)⟩);obtain⟨kd,aZ⟩:=ex a.kind
        obtain⟨od,aX⟩:=ex a.ord
        rw[aZ]at c0 d0 aM HS HU hu;rw[aX]at c2 d2 hu;have a1:=hid hu;clear aZ aX aw h1 h2 h3 h4 hu;by_cases hk10:kd=10
        .subst hk10;cases od with
         |false=>exact absurd ⟨rfl,rfl⟩ a1.out
         |true=>
          go_upto_region 19 with fail;clear c0 c1 c2 c4 d0 d1 d2 d4;go_loopw [105] (fun s105 wr=>∃k:Nat,k<=a.items.length/\s105=.int .i64 k/\Hid (Below wc.heap.size wc wr/\(List.range k).all (fun k=>((10:Int) != 10 || sameF ns f (a.keys.getD k 0) (b.keys.getD k 0)) && sameF ns f (a.items.getD k 0) (b.items.getD k 0))=true)) (fun s105 _=>a.items.length-(intOf s105).toNat)
          case atStart=>exact⟨0,by omega,rfl,hid ⟨Below.refl _ _,by simp⟩⟩
          case round=>
           obtain⟨k,hk,rfl,G⟩:=hrel;by_cases hlt:k<a.items.length
           .have K:(k:Int)<(a.items.length:Int):=by omega
            have q:k<b.items.length:=by have:=H4.out;omega
            have aA:(k:Int)<(b.items.length:Int):=by omega
            obtain⟨ap,av⟩:=aM.out (by trivial);have r:k<a.keys.length:=by omega
            have aB:(k:Int)<(a.keys.length:Int):=by omega
            have V:k<b.keys.length:=by have:=H4.out;omega
            have hlt3I:(k:Int)<(b.keys.length:Int):=by omega
            obtain⟨x,F⟩:=ex (a.keys[k])
            obtain⟨y,O⟩:=ex (b.keys[k])
            have aO:x∈a.keys++a.items:=List.mem_append_left _ (F▸List.getElem_mem r);have aj:y∈b.keys++b.items:=List.mem_append_left _ (O▸List.getElem_mem V);obtain⟨wv,ah⟩:∃wv,wv=wr:=⟨_,rfl⟩
            subst ah;obtain⟨X,U⟩:=ex (a.items[k])
            obtain⟨Y,S⟩:=ex (b.items[k])
            have ak:X∈a.keys++a.items:=List.mem_append_right _ (U▸List.getElem_mem hlt);have J:Y∈b.keys++b.items:=List.mem_append_right _ (S▸List.getElem_mem q);obtain⟨r1,r2,r3,r4⟩:=T.out wv G.out.1;obtain⟨aL,rfl,_,z3⟩:=zaf r1 r;obtain⟨aJ,rfl,_,z4⟩:=zaf r3 V;obtain⟨M,rfl,_,z1⟩:=zaf r2 hlt;obtain⟨I,rfl,_,z2⟩:=zaf r4 q;have d:Hid (∀W,Below wc.heap.size wc W->W.cell? ⟨C,0,none⟩=some (.slice (some g) ns.length c)/\W.cell? ⟨C,1,none⟩=some (.int .i64 root)/\W.cell? ⟨g7,0,none⟩=some (.int .i64 10)/\W.cell? ⟨g7,4,none⟩=some (.slice (some M) a.items.length ic)/\W.cell? ⟨g8,4,none⟩=some (.slice (some I) b.items.length z)/\W.cell? (M.add k)=some (.int .i64 X)/\W.cell? (I.add k)=some (.int .i64 Y)/\W.cell? ⟨g7,3,none⟩=some (.slice (some aL) a.keys.length kc)/\W.cell? ⟨g8,3,none⟩=some (.slice (some aJ) b.keys.length Q)/\W.cell? (aL.add k)=some (.int .i64 x)/\W.cell? (aJ.add k)=some (.int .i64 y)):=hid (fun W B=>by
             obtain⟨q0,q1,q2,q3,q4,q6,q5⟩:=HS.out W B;obtain⟨t1,t2,t3,t4⟩:=T.out W B;obtain⟨e1,f1,_,f3⟩:=zaf t2 hlt;obtain⟨e2,f4,_,f6⟩:=zaf t4 q;injection f1 with f1;injection f4 with f4
             subst f1;subst f4;rw[U]at f3;rw[S]at f6;obtain⟨e3,f7,_,f9⟩:=zaf t1 r;obtain⟨e4,aC,_,aU⟩:=zaf t3 V;injection f7 with f7;injection aC with aC
             subst f7;subst aC;rw[F]at f9;rw[O]at aU;exact⟨q0,q1,q2,q4,q5,f3,f6,q3,q6,f9,aU⟩)
            have o:Hid (∀W:WB wc.heap.size wc,Calls prog 50 #[.agg #[.slice (some g) ns.length c,.int .i64 root],.int .i64 x,.int .i64 y] W.w (fun e W'=>e=.returned (.bool (sameF ns f x y))/\Below wc.heap.size wc W')/\Calls prog 50 #[.agg #[.slice (some g) ns.length c,.int .i64 root],.int .i64 X,.int .i64 Y] W.w (fun e W'=>e=.returned (.bool (sameF ns f X Y))/\Below wc.heap.size wc W')):=hid (fun W=>⟨(HC.out x aO y aj W.w W.h).mono (fun _ _ h=>⟨h.2,h.1⟩),(HC.out X ak Y J W.w W.h).mono (fun _ _ h=>⟨h.2,h.1⟩)⟩);have p0:=fun W:WB wc.heap.size wc=>(d.out W.w W.h).1
            have p1:=fun W:WB wc.heap.size wc=>(d.out W.w W.h).2.1
            have p2:=fun W:WB wc.heap.size wc=>(d.out W.w W.h).2.2.1
            have p3:=fun W:WB wc.heap.size wc=>(d.out W.w W.h).2.2.2.1
            have p4:=fun W:WB wc.heap.size wc=>(d.out W.w W.h).2.2.2.2.1
            have p5:=fun W:WB wc.heap.size wc=>(d.out W.w W.h).2.2.2.2.2.1
            have p6:=fun W:WB wc.heap.size wc=>(d.out W.w W.h).2.2.2.2.2.2.1
            have p7:=fun W:WB wc.heap.size wc=>(d.out W.w W.h).2.2.2.2.2.2.2.1
            have p8:=fun W:WB wc.heap.size wc=>(d.out W.w W.h).2.2.2.2.2.2.2.2.1
            have p9:=fun W:WB wc.heap.size wc=>(d.out W.w W.h).2.2.2.2.2.2.2.2.2.1
            have bh:=fun W:WB wc.heap.size wc=>(d.out W.w W.h).2.2.2.2.2.2.2.2.2.2
            have gx:a.keys.getD k 0=x:=by rw[List.getD_eq_getElem?_getD,List.getElem?_eq_getElem r,F];rfl
            have gy:b.keys.getD k 0=y:=by rw[List.getD_eq_getElem?_getD,List.getElem?_eq_getElem V,O];rfl
            have gX:a.items.getD k 0=X:=by rw[List.getD_eq_getElem?_getD,List.getElem?_eq_getElem hlt,U];rfl
            have gY:b.items.getD k 0=Y:=by rw[List.getD_eq_getElem?_getD,List.getElem?_eq_getElem q,S];rfl
            obtain⟨s1,P⟩:=ex (sameF ns f x y)
            obtain⟨s2,t⟩:=ex (sameF ns f X Y)
            have R:Hid ((List.range (k+1)).all (fun k=>((10:Int) != 10 || sameF ns f (a.keys.getD k 0) (b.keys.getD k 0)) && sameF ns f (a.items.getD k 0) (b.items.getD k 0))=(s1 && s2)):=hid (by rw[List.range_succ,List.all_append,G.out.2];simp only[List.all_cons,List.all_nil,Bool.true_and,Bool.and_true,gx,gy,gX,gY,P,t,bne_self_eq_false,Bool.false_or]);have aG:Hid ((s1 && s2)=false->sameF ns (f+1) i j=false):=hid (fun e=>by
             rw[HU.out,List.all_eq_false];exact⟨k,List.mem_range.2 hlt,by simp only[gx,gy,gX,gY,P,t,bne_self_eq_false,Bool.false_or];rw[e];simp⟩)
            rw[P,t]at o;clear gx gy gX gY P t r1 r2 r3 r4 z1 z2 F O aO aj ap av z3 z4 U S ak J;go_upto_region 21 with fail;cases s1<;>cases s2
            all_goals
             refine zac wc.heap.size wc (by kernel_rfl) (by kernel_rfl) G.out.1 ?_
             repeat (go_big_quiet_step (((first| (with_reducible refine Calls.grow (o.out _).1)| (with_reducible refine Calls.grow (o.out _).2)))))
             refine wpQuiet_nil ?_;rintro _ ⟨wz,rfl⟩;clear p0 p1 p2 p3 p4 p5 p6 p7 p8 p9 bh;go_wp2_with fail
            all_goals first
             | (go_ret
                rw[aG.out (by first|rfl|trivial)];exact⟨rfl,m.out.trans (wz.h.mono m.out.size)⟩)
             | (go_roundw
                case rel=>exact⟨k+1,by omega,by go_num,hid ⟨wz.h,by first| (rw[R.out];done)| (rw[R.out];rfl)⟩⟩
                case measure=>simp[intOf];omega)
           .have K:¬(k:Int)<(a.items.length:Int):=by omega
            have v:Hid (sameF ns (f+1) i j=true):=hid (by
             have:=G.out.2;rw[show k=a.items.length from by omega]at this;rw[HU.out,this])
            go_wp2;go_ret;rw[v.out];exact⟨rfl,m.out.trans (G.out.1.mono m.out.size)⟩
        .have az:(kd==10)=false:=by simpa using hk10
         have aH:(kd != 10)=true:=by simp[bne,az]
         go_upto_region 19 with fail;clear c0 c1 c2 c4 d0 d1 d2 d4;go_loopw [105] (fun s105 wr=>∃k:Nat,k<=a.items.length/\s105=.int .i64 k/\Hid (Below wc.heap.size wc wr/\(List.range k).all (fun k=>(kd != 10 || sameF ns f (a.keys.getD k 0) (b.keys.getD k 0)) && sameF ns f (a.items.getD k 0) (b.items.getD k 0))=true)) (fun s105 _=>a.items.length-(intOf s105).toNat)
         case atStart=>exact⟨0,by omega,rfl,hid ⟨Below.refl _ _,by simp⟩⟩
         case round=>
          obtain⟨k,hk,rfl,G⟩:=hrel;by_cases hlt:k<a.items.length
          .have K:(k:Int)<(a.items.length:Int):=by omega
           have q:k<b.items.length:=by have:=H4.out;omega
           have aA:(k:Int)<(b.items.length:Int):=by omega
           obtain⟨wv,ah⟩:∃wv,wv=wr:=⟨_,rfl⟩
           subst ah;obtain⟨X,U⟩:=ex (a.items[k])
           obtain⟨Y,S⟩:=ex (b.items[k])
           have ak:X∈a.keys++a.items:=List.mem_append_right _ (U▸List.getElem_mem hlt);have J:Y∈b.keys++b.items:=List.mem_append_right _ (S▸List.getElem_mem q);obtain⟨r1,r2,r3,r4⟩:=T.out wv G.out.1;obtain⟨M,rfl,_,z1⟩:=zaf r2 hlt;obtain⟨I,rfl,_,z2⟩:=zaf r4 q;have d:Hid (∀W,Below wc.heap.size wc W->W.cell? ⟨C,0,none⟩=some (.slice (some g) ns.length c)/\W.cell? ⟨C,1,none⟩=some (.int .i64 root)/\W.cell? ⟨g7,0,none⟩=some (.int .i64 kd)/\W.cell? ⟨g7,4,none⟩=some (.slice (some M) a.items.length ic)/\W.cell? ⟨g8,4,none⟩=some (.slice (some I) b.items.length z)/\W.cell? (M.add k)=some (.int .i64 X)/\W.cell? (I.add k)=some (.int .i64 Y)):=hid (fun W B=>by
            obtain⟨q0,q1,q2,q3,q4,q6,q5⟩:=HS.out W B;obtain⟨t1,t2,t3,t4⟩:=T.out W B;obtain⟨e1,f1,_,f3⟩:=zaf t2 hlt;obtain⟨e2,f4,_,f6⟩:=zaf t4 q;injection f1 with f1;injection f4 with f4
            subst f1;subst f4;rw[U]at f3;rw[S]at f6;exact⟨q0,q1,q2,q4,q5,f3,f6⟩)
           have o:Hid (∀W:WB wc.heap.size wc,True/\Calls prog 50 #[.agg #[.slice (some g) ns.length c,.int .i64 root],.int .i64 X,.int .i64 Y] W.w (fun e W'=>e=.returned (.bool (sameF ns f X Y))/\Below wc.heap.size wc W')):=hid (fun W=>⟨trivial,(HC.out X ak Y J W.w W.h).mono (fun _ _ h=>⟨h.2,h.1⟩)⟩);have p0:=fun W:WB wc.heap.size wc=>(d.out W.w W.h).1
           have p1:=fun W:WB wc.heap.size wc=>(d.out W.w W.h).2.1
           have p2:=fun W:WB wc.heap.size wc=>(d.out W.w W.h).2.2.1
           have p3:=fun W:WB wc.heap.size wc=>(d.out W.w W.h).2.2.2.1
           have p4:=fun W:WB wc.heap.size wc=>(d.out W.w W.h).2.2.2.2.1
           have p5:=fun W:WB wc.heap.size wc=>(d.out W.w W.h).2.2.2.2.2.1
           have p6:=fun W:WB wc.heap.size wc=>(d.out W.w W.h).2.2.2.2.2.2
           have gX:a.items.getD k 0=X:=by rw[List.getD_eq_getElem?_getD,List.getElem?_eq_getElem hlt,U];rfl
           have gY:b.items.getD k 0=Y:=by rw[List.getD_eq_getElem?_getD,List.getElem?_eq_getElem q,S];rfl
           obtain⟨s2,t⟩:=ex (sameF ns f X Y)
           have R:Hid ((List.range (k+1)).all (fun k=>(kd != 10 || sameF ns f (a.keys.getD k 0) (b.keys.getD k 0)) && sameF ns f (a.items.getD k 0) (b.items.getD k 0))=s2):=hid (by rw[List.range_succ,List.all_append,G.out.2];simp only[List.all_cons,List.all_nil,Bool.true_and,Bool.and_true,gX,gY,t,aH,Bool.true_or]);have aG:Hid (s2=false->sameF ns (f+1) i j=false):=hid (fun e=>by
            rw[HU.out,List.all_eq_false];exact⟨k,List.mem_range.2 hlt,by simp only[gX,gY,t,aH,Bool.true_or,Bool.true_and];rw[e];simp⟩)
           rw[t]at o;clear gX gY t r1 r2 r3 r4 z1 z2 U S ak J;go_upto_region 21 with fail;cases s2
           all_goals
            refine zac wc.heap.size wc (by kernel_rfl) (by kernel_rfl) G.out.1 ?_
            repeat (go_big_quiet_step (((with_reducible refine Calls.grow (o.out _).2))))
            refine wpQuiet_nil ?_;rintro _ ⟨wz,rfl⟩;clear p0 p1 p2 p3 p4 p5 p6;go_wp2_with fail
           all_goals first
            | (go_ret
               rw[aG.out (by first|rfl|trivial)];exact⟨rfl,m.out.trans (wz.h.mono m.out.size)⟩)
            | (go_roundw
               case rel=>exact⟨k+1,by omega,by go_num,hid ⟨wz.h,by first| (rw[R.out];done)| (rw[R.out];rfl)⟩⟩
               case measure=>simp[intOf];omega)
          .have K:¬(k:Int)<(a.items.length:Int):=by omega
           have v:Hid (sameF ns (f+1) i j=true):=hid (by
            have:=G.out.2;rw[show k=a.items.length from by omega]at this;rw[HU.out,this])
           go_wp2;go_ret;rw[v.out];exact⟨rfl,m.out.trans (G.out.1.mono m.out.size)⟩
      .have bf:¬((a.items.length:Int)=(b.items.length:Int)):=by omega
       have h4b:((a.items.length:Int)==(b.items.length:Int))=false:=by simpa using bf
       have an:((⟨a.text.toArray⟩:ByteArray)==⟨a.text.toArray⟩)=true:=by rw[str_eq];simp
       have HF:Hid (sameF ns (f+1) i j=false):=hid (by rw[D.out];simp[diff,h4]);rw[<-h1]at d0;rw[<-h2]at d1;rw[<-h3]at d2;clear h1 h2 h3 h4;go_wp2;go_ret;rw[HF.out];exact⟨rfl,m.out⟩
     .have HF:Hid (sameF ns (f+1) i j=false):=hid (by rw[D.out];simp[diff,h3]);have an:((⟨a.text.toArray⟩:ByteArray)==⟨a.text.toArray⟩)=true:=by rw[str_eq];simp
      rw[<-h1]at d0;rw[<-h2]at d1;obtain⟨x,F⟩:=ex a.ord
      obtain⟨y,O⟩:=ex b.ord
      rw[F]at c2 h3;rw[O]at d2 h3;clear h1 h2 F O;cases x<;>cases y<;>first|exact absurd rfl h3|skip
      all_goals
       clear h3;go_wp2;go_ret;rw[HF.out];exact⟨rfl,m.out⟩
    .have HF:Hid (sameF ns (f+1) i j=false):=hid (by rw[D.out];simp[diff,h2]);have an:((⟨a.text.toArray⟩:ByteArray)==⟨b.text.toArray⟩)=false:=by rw[str_eq];simpa using h2
     rw[<-h1]at d0;clear h1;go_wp2;go_ret;rw[HF.out];exact⟨rfl,m.out⟩
   .have HF:Hid (sameF ns (f+1) i j=false):=hid (by rw[D.out];simp[diff,h1]);have h1b:(a.kind==b.kind)=false:=by simpa using h1
    go_wp2;go_ret;rw[HF.out];exact⟨rfl,m.out⟩
end Go.Proofs.YtpgmfihonmoliaaGreatDoor

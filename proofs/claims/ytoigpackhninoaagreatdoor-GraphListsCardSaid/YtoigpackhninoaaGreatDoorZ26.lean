import Derived.Test.YtoigpackhninoaaGreatDoorGrRReach
import Derived.StillTailTactics
import Derived.Test.YtoigpackhninoaaGreatDoorZ13
namespace Go.Proofs.YtoigpackhninoaaGreatDoor
open Gr
open _root_.Go.Proofs.Tryz
open _root_.Go.Lib (hid)
set_option maxRecDepth 100000
set_option maxHeartbeats 16000000
open Go.RowKit
theorem zf6 {w:World} {B:Nat} {A:Option Addr} {vs:List NV} {ns:List Gr.Nd} (h:GAt w B A vs ns) {j:Nat} {n:Gr.Nd} (hj:j<ns.length) (hn:ns[j]=n):∃ad ka kc ia ic,A=some ad/\w.cell? {block:=(ad.add (j*5)).block,off:=(ad.add (j*5)).off+3}=some (.slice ka n.keys.length kc)/\
 w.cell? {block:=(ad.add (j*5)).block,off:=(ad.add (j*5)).off+4}=some (.slice ia n.items.length ic)/\RowAt intL w B ka n.keys/\RowAt intL w B ia n.items:=by
 subst hn;obtain⟨ad,⟨ka,b,kc⟩,⟨ia,a,ic⟩,e,h⟩:=h.node hj;obtain rfl:b=ns[j].keys.length:=h.kn;obtain rfl:a=ns[j].items.length:=h.inn;exact⟨ad,ka,kc,ia,ic,e,h.c3,h.c4,h.keys,h.items⟩
structure CB (w wr:World) (gc:Array Value) (m:List Nat):Prop where
 below:Below w.heap.size w wr
 box:Blk wr w.heap.size 24 gc
 out:Blk wr (w.heap.size+1) 3 (icells m)
theorem CB.step {w wr:World} {gc:Array Value} {m:List Nat} (h:CB w wr gc m) (x:Nat):CB w (wr.setCell ⟨w.heap.size+1,x,none⟩ (.int .i64 ((m.getD x 0:Nat)+1))) gc (cstep m x):=
 ⟨h.below.setCell (by simp) _,h.box.far (by simp) _,by
  unfold cstep;rw[<-zau];exact h.out.set_ x _⟩
theorem zj2 (A:Option Addr) (c root:Nat) (vs:List NV) (ns:List Gr.Nd) (hr:Refs ns) (hl:ns.length<=1000) (hks:∀n∈ns,n.keys.length<=1000/\n.items.length<=1000) (ha:root<ns.length)
 (w:World) (h:GAt w w.heap.size A vs ns):
 Calls prog 67 #[.agg #[.slice A ns.length c,.int .i64 root]] w fun e w'=>∃ob,e=.returned (.slice (some ⟨ob,0,none⟩) ns.length ns.length)/\w.heap.size<=ob/\Below w.heap.size w w'/\Blk w' ob 3 (icells (counts ns root)):=by
 have H:=hid h;have ae:=fun W=>zbz ns.length (by omega) W
 have haI:(root:Int)<(ns.length:Int):=by omega
 have aa:Hid (∀j,(Gr.refs (ns.take j)).length<=2000*j):=hid (fun j=>by
  induction j with
  |zero=>simp[Gr.refs]
  |succ j ih=>
   by_cases hj:j<ns.length
   ·rw[zdb ns j hj];have:=hks _ (List.getElem_mem hj);simp only[List.length_append];omega
   ·rw[List.take_of_length_le (by omega)];rw[List.take_of_length_le (by omega)]at ih;omega)
 clear h;go_enter func67,ntmps67;go_upto_region 2 with fail;obtain⟨M,m⟩:=ex ((w.alloc (.cells #[.slice A ns.length c,.int .i64 root] 24)).alloc (.cells (icells (List.replicate ns.length 0)) 3))
 obtain⟨g,C⟩:∃g:Array Value,#[.slice A ns.length c,.int .i64 root]=g:=⟨_,rfl⟩
 have t:Hid (g[0]? =some (.slice A ns.length c)/\g[1]? =some (.int .i64 root)):=hid (by rw[<-C];exact⟨rfl,rfl⟩);have S:CB w M g (List.replicate ns.length 0):=by
  refine⟨by rw[<-m];exact((Below.refl _ _).alloc (Nat.le_refl _) _).alloc (by simp) _,by rw[<-m,<-C];exact(Blk.new _ _ _).alloc _,?_⟩;rw[<-m];have:=Blk.new (w.alloc (.cells #[.slice A ns.length c,.int .i64 root] 24)) 3 (icells (List.replicate ns.length 0));rw[World.size_alloc]at this;exact this
 have g1:M.cell? ⟨w.heap.size,1,none⟩=some (.int .i64 root):=by rw[S.box.cell];exact t.out.2
 have e0:(List.replicate ns.length 0).getD root 0=0:=by simp[List.getD_eq_getElem?_getD,ha]
 have z0:M.cell? ⟨w.heap.size+1,root,none⟩=some (.int .i64 0):=by
  rw[S.out.cell,zad (by simpa using ha),e0];rfl
 have zf:∀i,M.frozen? ⟨w.heap.size+1,i,none⟩=false:=S.out.frozen;have q:=S.step root;rw[e0]at q;obtain⟨f,B⟩:=ex (cstep (List.replicate ns.length 0) root)
 have o:Hid (f.length=ns.length/\(∀x,f.getD x 0<=1)/\counts ns root=(Gr.refs ns).foldl cstep f):=hid (by
  rw[<-B];refine⟨by rw[zcd];simp,fun x=>?_,rfl⟩;have:=zee (List.replicate ns.length 0) root x;have e:(List.replicate ns.length 0).getD x 0=0:=by simp[List.getD_eq_getElem?_getD,List.getElem?_replicate];split<;>rfl
  omega)
 rw[B]at q;rw[m];clear m C S;go_upto_region 3 with fail;obtain⟨w3,E⟩:=ex (M.setCell ⟨w.heap.size+1,root,none⟩ (.int .i64 1))
 have q:Hid (CB w w3 g f):=hid (by rw[<-E];exact q);rw[E];clear E B g1 z0 zf e0 ae;go_upto_region 4 with fail;go_loopw [4] (fun s4 wr=>∃j:Nat,j<=ns.length/\s4=.int .i64 j/\Hid (CB w wr g ((Gr.refs (ns.take j)).foldl cstep f))) (fun s4 _=>ns.length-(intOf s4).toNat)
 case atStart=>exact⟨0,by omega,rfl,hid (by simpa[Gr.refs]using q.out)⟩
 case round=>
  obtain⟨j,hj,rfl,P⟩:=hrel;have U:wr.cell? ⟨w.heap.size,0,none⟩=some (.slice A ns.length c):=by rw[P.out.box.cell];exact t.out.1
  by_cases hlt:j<ns.length
  ·have N:(j:Int)<(ns.length:Int):=by omega
   have s:ns[j]∈ns:=List.getElem_mem hlt;obtain⟨n,K⟩:=ex (ns[j])
   have O:Hid (∀x∈n.keys++n.items,x<ns.length):=hid (by rw[<-K];exact hr _ s);have hkl:n.keys.length<=1000:=by rw[<-K];exact(hks _ s).1
   have hil:n.items.length<=1000:=by rw[<-K];exact(hks _ s).2
   obtain⟨R,Y⟩:=ex (Gr.refs (ns.take j))
   have af:Hid (Gr.refs (ns.take (j+1))=R++(n.keys++n.items)):=hid (by rw[zdb ns j hlt,Y,K]);have Q:Hid (R.length<=2000000):=hid (by have:=aa.out j;rw[Y]at this;omega);have y:Hid (∀W,CB w W g ((Gr.refs (ns.take j)).foldl cstep f)\/Below w.heap.size w W->∃ad ka kc ia ic,A=some ad/\W.cell? {block:=(ad.add (j*5)).block,off:=(ad.add (j*5)).off+3}=some (.slice ka n.keys.length kc)/\
    W.cell? {block:=(ad.add (j*5)).block,off:=(ad.add (j*5)).off+4}=some (.slice ia n.items.length ic)/\RowAt intL W w.heap.size ka n.keys/\RowAt intL W w.heap.size ia n.items):=hid (fun W hW=>zf6 (H.out.below (hW.elim (fun x=>x.below) id)) hlt K)
   rw[Y]at P y;obtain⟨ad,ka,kc,ia,ic,rfl,V,T,_,_⟩:=y.out wr (.inl P.out);clear s Y K;go_upto_region 7 with fail;clear U V T;go_loopw [5] (fun s5 wr=>∃k:Nat,k<=n.keys.length/\s5=.int .i64 k/\Hid (CB w wr g ((R++n.keys.take k).foldl cstep f))) (fun s5 _=>n.keys.length-(intOf s5).toNat)
   case atStart=>exact⟨0,by omega,rfl,hid (by rw[List.take_zero,List.append_nil];exact P.out)⟩
   case round=>
    obtain⟨k,hk,rfl,u⟩:=hrel;have U:wr.cell? ⟨w.heap.size,0,none⟩=some (.slice (some ad) ns.length c):=by rw[u.out.box.cell];exact t.out.1
    obtain⟨Z,ka,kc,ia,ic,z,V,T,L,J⟩:=y.out wr (.inr u.out.below);injection z with z
    subst z;by_cases hlk:k<n.keys.length
    ·have p:(k:Int)<(n.keys.length:Int):=by omega
     obtain⟨x,r⟩:=ex (n.keys[k])
     obtain⟨ah,rfl,_,y0⟩:=zae L hlk;rw[r]at y0;have ab:x<ns.length:=O.out x (by simp[<-r]);have ag:(x:Int)<(ns.length:Int):=by omega
     obtain⟨l,a⟩:=ex ((R++n.keys.take k).foldl cstep f)
     have G:l.length=ns.length:=by rw[<-a,zb1,o.out.1]
     have I:l.getD x 0<=3000000:=by
      rw[<-a];have h1:=zda (R++n.keys.take k) f x;have h2:=o.out.2.1 x;have h3:=Q.out;simp only[List.length_append,List.length_take]at h1;omega
     have d:=u.out;rw[a]at d;have b:=d.step x;obtain⟨v,D⟩:=ex (l.getD x 0)
     have z0:wr.cell? ⟨w.heap.size+1,x,none⟩=some (.int .i64 (v:Int)):=by rw[d.out.cell,zad (by omega),D]
     have zf:∀i,wr.frozen? ⟨w.heap.size+1,i,none⟩=false:=d.out.frozen;rw[D]at I b;have F:Hid (CB w (wr.setCell ⟨w.heap.size+1,x,none⟩ (.int .i64 ((v:Int)+1))) g ((R++n.keys.take (k+1)).foldl cstep f)):=hid (by
      rw[zaj _ _ hlk,<-List.append_assoc,List.foldl_append,a,r];exact b)
     have ai:k<=1000:=by omega
     clear d b a G D r L J;go_wp2;go_roundw
     case rel=>exact⟨k+1,by omega,by go_num,F⟩
     case measure=>simp[intOf];omega
    ·have p:¬(k:Int)<(n.keys.length:Int):=by omega
     have X:Hid (CB w wr g ((R++n.keys).foldl cstep f)):=hid (by have:=u.out;rwa[List.take_of_length_le (by omega)]at this);clear L J;go_upto_region 11 with fail;clear U V T;go_loopw [6] (fun s6 wr=>∃k:Nat,k<=n.items.length/\s6=.int .i64 k/\Hid (CB w wr g (((R++n.keys)++n.items.take k).foldl cstep f))) (fun s6 _=>n.items.length-(intOf s6).toNat)
     case atStart=>exact⟨0,by omega,rfl,hid (by rw[List.take_zero,List.append_nil];exact X.out)⟩
     case round=>
      obtain⟨k,hk,rfl,u⟩:=hrel;have U:wr.cell? ⟨w.heap.size,0,none⟩=some (.slice (some ad) ns.length c):=by rw[u.out.box.cell];exact t.out.1
      obtain⟨Z,ka,kc,ia,ic,z,V,T,L,J⟩:=y.out wr (.inr u.out.below);injection z with z
      subst z;by_cases hlk:k<n.items.length
      ·have p:(k:Int)<(n.items.length:Int):=by omega
       obtain⟨x,r⟩:=ex (n.items[k])
       obtain⟨ah,rfl,_,y0⟩:=zae J hlk;rw[r]at y0;have ab:x<ns.length:=O.out x (by simp[<-r]);have ag:(x:Int)<(ns.length:Int):=by omega
       obtain⟨l,a⟩:=ex (((R++n.keys)++n.items.take k).foldl cstep f)
       have G:l.length=ns.length:=by rw[<-a,zb1,o.out.1]
       have I:l.getD x 0<=3000000:=by
        rw[<-a];have h1:=zda ((R++n.keys)++n.items.take k) f x;have h2:=o.out.2.1 x;have h3:=Q.out;simp only[List.length_append,List.length_take]at h1;omega
       have d:=u.out;rw[a]at d;have b:=d.step x;obtain⟨v,D⟩:=ex (l.getD x 0)
       have z0:wr.cell? ⟨w.heap.size+1,x,none⟩=some (.int .i64 (v:Int)):=by rw[d.out.cell,zad (by omega),D]
       have zf:∀i,wr.frozen? ⟨w.heap.size+1,i,none⟩=false:=d.out.frozen;rw[D]at I b;have F:Hid (CB w (wr.setCell ⟨w.heap.size+1,x,none⟩ (.int .i64 ((v:Int)+1))) g (((R++n.keys)++n.items.take (k+1)).foldl cstep f)):=hid (by
        rw[zaj _ _ hlk,<-List.append_assoc,List.foldl_append,a,r];exact b)
       have ai:k<=1000:=by omega
       clear d b a G D r L J;go_wp2;go_roundw
       case rel=>exact⟨k+1,by omega,by go_num,F⟩
       case measure=>simp[intOf];omega
      ·have p:¬(k:Int)<(n.items.length:Int):=by omega
       have ac:Hid (CB w wr g (((R++n.keys)++n.items).foldl cstep f)):=hid (by have:=u.out;rwa[List.take_of_length_le (by omega)]at this);clear L J;have HF:Hid (CB w wr g ((Gr.refs (ns.take (j+1))).foldl cstep f)):=hid (by rw[af.out,<-List.append_assoc];exact ac.out);go_wp2;go_roundw
       case rel=>exact⟨j+1,by omega,by go_num,HF⟩
       case measure=>simp[intOf];omega
  ·have N:¬(j:Int)<(ns.length:Int):=by omega
   have X:Hid (CB w wr g (counts ns root)):=hid (by rw[o.out.2.2];have:=P.out;rwa[List.take_of_length_le (by omega)]at this);go_wp2;go_ret;exact⟨w.heap.size+1,rfl,by omega,X.out.below,X.out.out⟩
structure MB (w wr:World) (gc:Array Value) (m:List Bool):Prop where
 below:Below w.heap.size w wr
 box:Blk wr w.heap.size 24 gc
 out:Blk wr (w.heap.size+1) 4 (bcells m)
 hd:w.heap.size+2<=wr.heap.size
theorem MB.later {w wr w2:World} {gc:Array Value} {m:List Bool} (h:MB w wr gc m) (hb:Below wr.heap.size wr w2):MB w w2 gc m:=
 ⟨h.below.trans (hb.mono h.below.size),h.box.below hb h.box.lt,h.out.below hb h.out.lt,Nat.le_trans h.hd hb.size⟩
theorem MB.set {w wr:World} {gc:Array Value} {m:List Bool} (h:MB w wr gc m) (x:Nat) (b:Bool):MB w (wr.setCell ⟨w.heap.size+1,x,none⟩ (.bool b)) gc (m.set x b):=
 ⟨h.below.setCell (by simp) _,h.box.far (by simp) _,by rw[<-zby];exact h.out.set_ x _,by have:=h.hd;simpa[World.setCell]using this⟩
def OrTo (o m acc:List Bool) (j:Nat):Prop:=acc.length=o.length/\∀x,mkd acc x=if x<j then(mkd o x || mkd m x)else mkd o x
theorem OrTo.step {o m acc:List Bool} {j:Nat} (h:OrTo o m acc j) (hj:j<o.length):OrTo o m (acc.set j (mkd o j || mkd m j)) (j+1):=by
 refine⟨by simp[h.1],fun x=>?_⟩;have a:mkd (acc.set j (mkd o j || mkd m j)) x=if x=j then(mkd o j || mkd m j)else mkd acc x:=by
  unfold mkd;simp only[List.getD_eq_getElem?_getD,List.getElem?_set];by_cases e:j=x
  ·subst e;simp[h.1,hj]
  ·rw[if_neg e,if_neg (fun k=>e k.symm)]
 rw[a,h.2];by_cases e:x=j
 ·subst e;rw[if_pos rfl,if_pos (by omega)]
 ·rw[if_neg e];by_cases e2:x<j
  ·rw[if_pos e2,if_pos (by omega)]
  ·rw[if_neg e2,if_neg (by omega)]
theorem OrTo.last {o m acc:List Bool} {j:Nat} (h:OrTo o m acc j) (hm:o.length=m.length) (hj:o.length<=j):acc=Gr.orM o m:=by
 refine zqw (by rw[h.1,zqx hm]) (fun x=>?_);rw[h.2,zun hm];by_cases e:x<j
 ·rw[if_pos e]
 ·rw[if_neg e];have:mkd m x=false:=by unfold mkd;rw[List.getD_eq_getElem?_getD,List.getElem?_eq_none (by omega)];rfl
  rw[this,Bool.or_false]
theorem zj3 (A:Option Addr) (c:Nat) (root:Int) (vs:List NV) (ns:List Gr.Nd) (hr:Refs ns) (hl:ns.length<=1000) (hks:∀n∈ns,n.keys.length<=1000/\n.items.length<=1000)
 (w:World) (h:GAt w w.heap.size A vs ns):
 Calls prog 62 #[.agg #[.slice A ns.length c,.int .i64 root]] w fun e w'=>∃ob,e=.returned (.slice (some ⟨ob,0,none⟩) ns.length ns.length)/\w.heap.size<=ob/\Below w.heap.size w w'/\Blk w' ob 4 (bcells (inKeys ns)):=by
 have H:=hid h;have ab:=fun W=>zb0 ns.length (by omega) W
 have aa:Hid (∀k∈allKeys ns,k<ns.length):=hid (zi5 hr);have ah:Hid (∀k,k<ns.length->(marks ns k).length=ns.length):=hid (fun k hk=>zbe hr hk);have r:Hid ((allKeys ns).foldl (fun o k=>Gr.orM o (marks ns k)) (List.replicate ns.length false)=inKeys ns):=hid (zjz hr);have J:Hid (∀L:List Nat,(∀x∈L,x<ns.length)->(L.foldl (fun o k=>Gr.orM o (marks ns k)) (List.replicate ns.length false)).length=ns.length):=hid (fun L hL=>(zit hr L (List.replicate ns.length false) hL (by simp)).1);clear h;go_enter func62,ntmps62;go_upto_region 2 with fail;obtain⟨w2,f⟩:=ex ((w.alloc (.cells #[.slice A ns.length c,.int .i64 root] 24)).alloc (.cells (bcells (List.replicate ns.length false)) 4))
 obtain⟨a,v⟩:∃a:Array Value,#[.slice A ns.length c,.int .i64 root]=a:=⟨_,rfl⟩
 have z:Hid (a[0]? =some (.slice A ns.length c)/\a[1]? =some (.int .i64 root)):=hid (by rw[<-v];exact⟨rfl,rfl⟩);obtain⟨C,B⟩:=ex (List.replicate ns.length false)
 have ag:Hid (MB w w2 a C):=hid (by
  refine⟨by rw[<-f];exact((Below.refl _ _).alloc (Nat.le_refl _) _).alloc (by simp) _,by rw[<-f,<-v];exact(Blk.new _ _ _).alloc _,?_,by rw[<-f];simp⟩;rw[<-f,<-B];have:=Blk.new (w.alloc (.cells #[.slice A ns.length c,.int .i64 root] 24)) 4 (bcells (List.replicate ns.length false));rw[World.size_alloc]at this;exact this)
 rw[B]at r J;rw[f];clear f v ab B;go_upto_region 3 with fail;go_loopw [4] (fun s4 wr=>∃j:Nat,j<=ns.length/\s4=.int .i64 j/\Hid (MB w wr a ((allKeys (ns.take j)).foldl (fun o k=>Gr.orM o (marks ns k)) C))) (fun s4 _=>ns.length-(intOf s4).toNat)
 case atStart=>exact⟨0,by omega,rfl,hid (by simpa[allKeys]using ag.out)⟩
 case round=>
  obtain⟨j,hj,rfl,P⟩:=hrel;have g0:wr.cell? ⟨w.heap.size,0,none⟩=some (.slice A ns.length c):=by rw[P.out.box.cell];exact z.out.1
  by_cases hlt:j<ns.length
  ·have F:(j:Int)<(ns.length:Int):=by omega
   have I:ns[j]∈ns:=List.getElem_mem hlt;obtain⟨n,hn⟩:=ex (ns[j])
   have hkl:n.keys.length<=1000:=by rw[<-hn];exact(hks _ I).1
   obtain⟨K,hK⟩:=ex (allKeys (ns.take j))
   have R:Hid (allKeys (ns.take (j+1))=K++n.keys):=hid (by rw[zhe ns j hlt,hK,hn]);have Q:Hid (∀x∈K++n.keys,x<ns.length):=hid (fun x D=>aa.out x (zke ns (j+1) x (by rw[R.out];exact D)));have Y:Hid (∀W,Below w.heap.size w W->∃ad ka kc ia ic,A=some ad/\W.cell? {block:=(ad.add (j*5)).block,off:=(ad.add (j*5)).off+3}=some (.slice ka n.keys.length kc)/\
    W.cell? {block:=(ad.add (j*5)).block,off:=(ad.add (j*5)).off+4}=some (.slice ia n.items.length ic)/\RowAt intL W w.heap.size ka n.keys/\RowAt intL W w.heap.size ia n.items):=hid (fun W hW=>zf6 (H.out.below hW) hlt hn)
   rw[hK]at P;obtain⟨ad,ka,kc,ia,ic,rfl,x3,x4,_,_⟩:=Y.out wr P.out.below;clear I hK hn;go_upto_region 6 with fail;clear g0 x3 x4;go_loopw [5] (fun s5 wr=>∃k:Nat,k<=n.keys.length/\s5=.int .i64 k/\Hid (MB w wr a ((K++n.keys.take k).foldl (fun o k=>Gr.orM o (marks ns k)) C))) (fun s5 _=>n.keys.length-(intOf s5).toNat)
   case atStart=>exact⟨0,by omega,rfl,hid (by rw[List.take_zero,List.append_nil];exact P.out)⟩
   case round=>
    obtain⟨k,hk,rfl,m⟩:=hrel;have g0:wr.cell? ⟨w.heap.size,0,none⟩=some (.slice (some ad) ns.length c):=by rw[m.out.box.cell];exact z.out.1
    have g1:wr.cell? ⟨w.heap.size,1,none⟩=some (.int .i64 root):=by rw[m.out.box.cell];exact z.out.2
    obtain⟨ad1,ka,kc,ia,ic,he,x3,x4,HK,_⟩:=Y.out wr m.out.below;injection he with he
    subst he;by_cases hlk:k<n.keys.length
    ·have X:(k:Int)<(n.keys.length:Int):=by omega
     obtain⟨x,D⟩:=ex (n.keys[k])
     obtain⟨ad2,rfl,_,y0⟩:=zae HK hlk;rw[D]at y0;have G:x<ns.length:=Q.out x (by simp[<-D]);obtain⟨o,Z⟩:∃o,(K++n.keys.take k).foldl (fun o k=>Gr.orM o (marks ns k)) C=o:=⟨_,rfl⟩
     have l:Hid (o.length=ns.length):=hid (by rw[<-Z];exact J.out _ (fun y hy=>Q.out y (by
      rcases List.mem_append.1 hy with hy|hy
      ·exact List.mem_append_left _ hy
      ·exact List.mem_append_right _ (List.mem_of_mem_take hy))))
     have O:Hid ((K++n.keys.take (k+1)).foldl (fun o k=>Gr.orM o (marks ns k)) C=Gr.orM o (marks ns x)):=hid (by rw[zaj _ _ hlk,<-List.append_assoc,List.foldl_append,Z,D];rfl);rw[Z]at m;have HC:Hid (∀d,Calls prog 53 #[.agg #[.slice (some ad) ns.length c,.int .i64 root],.int .i64 x] (wr.drewN d) fun e w'=>∃ob,e=.returned (.slice (some ⟨ob,0,none⟩) ns.length ns.length)/\wr.heap.size<=ob/\Below wr.heap.size wr w'/\Blk w' ob 4 (bcells (marks ns x))):=hid (fun d=>
      (zd2 (some ad) c x root vs ns hr hl hks G (wr.drewN d) (((H.out.below (m.out.below)).more m.out.below.size).below (below_drewN (Below.refl _ _) d))).mono (fun e w' ⟨ob,h1,h2,h3,h4⟩=>⟨ob,h1,h2,(below_drewN (Below.refl _ _) d).trans h3,h4⟩))
     have hkb:k<=1000:=by omega
     clear D Z HK x4;go_upto_region 8 with fail;go_still_tail 10,(by kernel_rfl)
     change wpList _ _ _ _ _ wr.drew;go_wp2_with fail;refine(HC.out 1).mono ?_;rintro e w8 ⟨N,rfl,ae,E,S⟩;have af:Hid (MB w w8 a o):=hid (m.out.later E);have s:Hid (Blk w8 N 4 (bcells (marks ns x))/\w.heap.size+1<N):=hid ⟨S,by have:=m.out.hd;omega⟩;have u:=hid (ah.out x G);obtain⟨U,V⟩:=ex (marks ns x)
     rw[V]at s O u;clear ae E S g0 g1 x3 y0 V;go_upto_region 10 with fail;go_loopw [7] (fun s7 wr=>∃(i:Nat) (acc:List Bool),i<=ns.length/\s7=.int .i64 i/\Hid (MB w wr a acc/\OrTo o U acc i/\Blk wr N 4 (bcells U))) (fun s7 _=>ns.length-(intOf s7).toNat)
     case atStart=>exact⟨0,o,by omega,rfl,hid ⟨af.out,⟨rfl,fun x=>by simp⟩,s.out.1⟩⟩
     case round=>
      obtain⟨i,acc,hi,rfl,g⟩:=hrel;by_cases hli:i<ns.length
      ·have M:(i:Int)<(ns.length:Int):=by omega
       have ac:=g.out.2.1.1;have t:=g.out.2.1.2 i;rw[if_neg (Nat.lt_irrefl i)]at t;obtain⟨p,hp⟩:=ex (mkd o i)
       obtain⟨q,hq⟩:=ex (mkd U i)
       have z0:wr.cell? ⟨w.heap.size+1,i,none⟩=some (.bool p):=by
        rw[g.out.1.out.cell,zah (by have:=l.out;omega),<-hp,<-t];rfl
       have q0:wr.cell? ⟨N,i,none⟩=some (.bool q):=by
        rw[g.out.2.2.cell,zah (by have:=u.out;omega),<-hq];rfl
       have zf:∀i,wr.frozen? ⟨w.heap.size+1,i,none⟩=false:=g.out.1.out.frozen;have T:Hid (∀b,b=(p || q)->MB w (wr.setCell ⟨w.heap.size+1,i,none⟩ (.bool b)) a (acc.set i b)/\OrTo o U (acc.set i b) (i+1)/\Blk (wr.setCell ⟨w.heap.size+1,i,none⟩ (.bool b)) N 4 (bcells U)):=hid (fun b hb=>by
        subst hb;refine⟨g.out.1.set _ _,?_,g.out.2.2.far (by have:=s.out.2;simp;omega) _⟩;have:=g.out.2.1.step (by have:=l.out;omega);rwa[hp,hq]at this)
       have hib:i<=1000:=by omega
       clear ac t hp hq;cases p with
       |true=>
        go_wp2;go_roundw
        case rel=>exact⟨i+1,acc.set i true,by omega,by go_num,hid (T.out true rfl)⟩
        case measure=>simp[intOf];omega
       |false=>
        have HQ:Hid (q=(false || q)):=hid (by cases q<;>rfl);go_wp2;go_roundw
        case rel=>exact⟨i+1,acc.set i q,by omega,by go_num,hid (T.out q HQ.out)⟩
        case measure=>simp[intOf];omega
      ·have M:¬(i:Int)<(ns.length:Int):=by omega
       have HF:Hid (MB w wr a ((K++n.keys.take (k+1)).foldl (fun o k=>Gr.orM o (marks ns k)) C)):=hid (by
        rw[O.out,<-g.out.2.1.last (by rw[l.out,u.out]) (by rw[l.out];omega)];exact g.out.1)
       go_wp2;go_roundw
       case rel=>exact⟨k+1,by omega,by go_num,HF⟩
       case measure=>simp[intOf];omega
    ·have X:¬(k:Int)<(n.keys.length:Int):=by omega
     have HF:Hid (MB w wr a ((allKeys (ns.take (j+1))).foldl (fun o k=>Gr.orM o (marks ns k)) C)):=hid (by rw[R.out];have:=m.out;rwa[List.take_of_length_le (by omega)]at this);clear HK x4 g1;go_wp2;go_roundw
     case rel=>exact⟨j+1,by omega,by go_num,HF⟩
     case measure=>simp[intOf];omega
  ·have F:¬(j:Int)<(ns.length:Int):=by omega
   have HE:Hid (MB w wr a (inKeys ns)):=hid (by rw[<-r.out];have:=P.out;rwa[List.take_of_length_le (by omega)]at this);go_wp2;go_ret;exact⟨w.heap.size+1,rfl,by omega,HE.out.below,HE.out.out⟩
theorem zq6 (p:Nat->Bool) (i:Nat):(List.range (i+1)).all p=((List.range i).all p && p i):=by
 rw[List.range_succ,List.all_append];simp
theorem ziy {p:Nat->Bool} {i n:Nat} (h:i<n) (hp:p i=false):(List.range n).all p=false:=by
 rw[List.all_eq_false];exact⟨i,List.mem_range.2 h,by rw[hp];decide⟩
theorem zq7 (A:Option Addr) (c:Nat) (root:Int) (vs:List NV) (is:List Gr.Ni) (hl:is.length<=1000) (hks:∀n∈is,n.keys.length<=1000/\n.items.length<=1000/\n.text.length<=268435455)
 (w:World) (h:IAt w w.heap.size A vs is):
 Calls prog 40 #[.agg #[.slice A is.length c,.int .i64 root]] w fun e w'=>e=.returned (.bool (rwell sclX is root))/\Below w.heap.size w w':=by
 have H:=hid h;obtain⟨M,y⟩:=ex (w.alloc (.cells #[.slice A is.length c,.int .i64 root] 24))
 have b1:Blk M w.heap.size 24 #[.slice A is.length c,.int .i64 root]:=by rw[<-y];exact Blk.new _ _ _
 have L1:Hid (Below w.heap.size w M):=hid (by rw[<-y];exact(Below.refl _ _).alloc (Nat.le_refl _) _);obtain⟨g0,g1⟩:=cells2 b1;have T:=hid b1;have u:Hid ((is.length=0\/inR is.length root=false)->rwell sclX is root=false):=hid (fun h=>by unfold rwell;rw[if_pos h]);clear h b1;go_enter func40,ntmps40;go_upto_region 1 with fail;(try rw[y]);clear y;by_cases h0:is.length=0
 ·have al:((is.length:Int)==0)=true:=by rw[h0];rfl
  have l:Hid (rwell sclX is root=false):=hid (u.out (.inl h0));have H0:=hid h0;clear h0;go_wp2;go_ret;exact⟨by rw[l.out]<;>rfl,L1.out⟩
 ·have al:((is.length:Int)==0)=false:=by rw[beq_eq_false_iff_ne];omega
  by_cases h1:0<=root
  ·have aq:¬root<0:=by omega
   by_cases h2:root<(is.length:Int)
   ·have aj:¬(is.length:Int)<=root:=by omega
    obtain⟨r,rfl⟩:∃r:Nat,root=(r:Int):=⟨root.toNat,by omega⟩
    have hrn:r<is.length:=by omega
    have ae:Hid (rwell sclX is (r:Int)=if is.all (rform sclX is.length)=false then false else(List.range is.length).all (rnode (is.map Gr.Ni.nd) r)):=hid (by
     unfold rwell;rw[if_neg,Int.toNat_natCast];rintro(h|h)
     ·exact h0 h
     ·unfold inR at h;rw[decide_eq_true h1,decide_eq_true h2]at h;cases h)
    clear u;go_upto_region 5 with fail;clear g0 g1;go_loopw [4] (fun s4 wr=>∃j:Nat,j<=is.length/\s4=.int .i64 j/\Hid (Below M.heap.size M wr/\(is.take j).all (rform sclX is.length)=true)) (fun s4 _=>is.length-(intOf s4).toNat)
    case atStart=>exact⟨0,by omega,rfl,hid ⟨Below.refl _ _,by simp⟩⟩
    case round=>
     obtain⟨j,hj,rfl,N⟩:=hrel;have d:Hid (Below w.heap.size w wr):=hid (L1.out.trans (N.out.1.mono L1.out.size));have G:Hid (Blk wr w.heap.size 24 #[.slice A is.length c,.int .i64 r]):=hid (T.out.below N.out.1 T.out.lt);by_cases hlt:j<is.length
     ·have Q:(j:Int)<(is.length:Int):=by omega
      have g0:wr.cell? ⟨w.heap.size,0,none⟩=some (.slice A is.length c):=G.out.cell 0;have C:is[j]∈is:=List.getElem_mem hlt;obtain⟨ao,au,ab⟩:=hks _ C;obtain⟨ad,ks,ak,rfl,S,c0,c1,c2,c3,c4,r1,r2,r3,r4⟩:=(H.out.below d.out).node hlt;obtain⟨ka,kn,kc⟩:=ks;obtain⟨ia,ap,ic⟩:=ak;have E:Hid ((is.take (j+1)).all (rform sclX is.length)=rform sclX is.length is[j]):=hid (by rw[zb3 _ _ _ hlt,N.out.2,Bool.true_and]);have D:Hid (rform sclX is.length is[j]=false->is.all (rform sclX is.length)=false):=hid (fun h=>by rw[List.all_eq_false];exact⟨_,C,by rw[h];decide⟩);obtain⟨n,hn⟩:=ex (is[j])
      rw[hn]at c0 c1 c2 r1 r2 r3 r4 ao au ab E D;obtain rfl:kn=n.keys.length:=r2;obtain rfl:ap=n.items.length:=r4;have HC:=hid (zqv n.kind n.text n.ord n.keys n.items ka ia kc ic is.length w.heap.size (by omega) ab (by omega) (by omega) wr d.out.size r1 r3);obtain⟨b,hb⟩:=ex (rform sclX is.length n)
      have af:rform sclX is.length ⟨n.kind,n.text,n.ord,n.keys,n.items⟩=b:=hb;rw[af]at HC;rw[hb]at E D;have hjb:j<=1000:=by omega
      clear hb af hn C r1 r3 S;cases b with
      |false=>
       have l:Hid (rwell sclX is (r:Int)=false):=hid (by rw[ae.out,if_pos (D.out rfl)]);go_wp2_with fail;refine HC.out.mono ?_;rintro e w2 ⟨rfl,m⟩;go_wp2;go_ret;exact⟨by rw[l.out]<;>rfl,d.out.trans (m.mono d.out.size)⟩
      |true=>
       go_wp2_with fail;refine HC.out.mono ?_;rintro e w2 ⟨rfl,m⟩;have HN:Hid (Below M.heap.size M w2/\(is.take (j+1)).all (rform sclX is.length)=true):=hid ⟨N.out.1.trans (m.mono N.out.1.size),E.out⟩;clear m;go_wp2;go_roundw
       case rel=>exact⟨j+1,by omega,by go_num,HN⟩
       case measure=>simp[intOf];omega
     ·have Q:¬(j:Int)<(is.length:Int):=by omega
      have R:Hid (is.all (rform sclX is.length)=true):=hid (by have:=N.out.2;rwa[List.take_of_length_le (by omega)]at this);have aa:Hid (is.all (rng is.length)=true):=hid (List.all_eq_true.2 (fun x hx=>zfg (List.all_eq_true.1 R.out x hx)));have k:Hid (Refs (is.map Gr.Ni.nd)):=hid (zbu aa.out).2;have L:Hid (rwell sclX is (r:Int)=(List.range is.length).all (rnode (is.map Gr.Ni.nd) r)):=hid (by rw[ae.out,R.out];rfl);obtain⟨a,o⟩:=ex (is.map Gr.Ni.nd)
      have g:a.length=is.length:=by rw[<-o];simp
      have t:Hid (∀n∈a,n.keys.length<=1000/\n.items.length<=1000):=hid (by
       rw[<-o];intro n hn;obtain⟨x,hx,rfl⟩:=List.mem_map.1 hn;have:=hks x hx;simp only[Gr.Ni.nd,List.length_map];omega)
      have F:Hid (∀W,Below w.heap.size w W->GAt W W.heap.size A vs a):=hid (fun W f=>by
       rw[<-o];exact((H.out.below f).more f.size).toG (zbu aa.out).1)
      rw[o]at k L;clear o;have HS:Hid (∀W,Below wr.heap.size wr W->W.cell? ⟨w.heap.size,0,none⟩=some (.slice A is.length c)/\W.cell? ⟨w.heap.size,1,none⟩=some (.int .i64 r)):=hid (fun W f=>by
       have:=G.out.below f G.out.lt;exact⟨this.cell 0,this.cell 1⟩)
      have U:Hid (∀W,Below wr.heap.size wr W->Calls prog 53 #[.agg #[.slice A is.length c,.int .i64 r],.int .i64 r] W fun e w'=>Below wr.heap.size wr w'/\∃ob,e=.returned (.slice (some ⟨ob,0,none⟩) is.length is.length)/\Blk w' ob 4 (bcells (marks a r))):=hid (fun W f=>by
       rw[<-g];refine(zd2 A c r (r:Int) vs a k.out (by omega) t.out (by omega) W (F.out W (d.out.trans (f.mono d.out.size)))).mono ?_;rintro e w' ⟨ob,h1,h2,z,O⟩;exact⟨f.trans (z.mono f.size),ob,h1,O⟩)
      have ag:Hid (∀W,Below wr.heap.size wr W->Calls prog 67 #[.agg #[.slice A is.length c,.int .i64 r]] W fun e w'=>Below wr.heap.size wr w'/\Below W.heap.size W w'/\∃ob,e=.returned (.slice (some ⟨ob,0,none⟩) is.length is.length)/\Blk w' ob 3 (icells (counts a r))):=hid (fun W f=>by
       rw[<-g];refine(zj2 A c r vs a k.out (by omega) t.out (by omega) W (F.out W (d.out.trans (f.mono d.out.size)))).mono ?_;rintro e w' ⟨ob,h1,h2,z,O⟩;exact⟨f.trans (z.mono f.size),z,ob,h1,O⟩)
      have ai:Hid (∀W,Below wr.heap.size wr W->Calls prog 62 #[.agg #[.slice A is.length c,.int .i64 r]] W fun e w'=>Below wr.heap.size wr w'/\Below W.heap.size W w'/\∃ob,e=.returned (.slice (some ⟨ob,0,none⟩) is.length is.length)/\Blk w' ob 4 (bcells (inKeys a))):=hid (fun W f=>by
       rw[<-g];refine(zj3 A c (r:Int) vs a k.out (by omega) t.out W (F.out W (d.out.trans (f.mono d.out.size)))).mono ?_;rintro e w' ⟨ob,h1,h2,z,O⟩;exact⟨f.trans (z.mono f.size),z,ob,h1,O⟩)
      obtain⟨q0,q1⟩:=HS.out wr (Below.refl _ _);go_upto_region 9 with fail;go_cut [5,6,7] (fun s5 s6 s7 wx=>∃o1 o2 o3,s5=.slice (some ⟨o1,0,none⟩) is.length is.length/\s6=.slice (some ⟨o2,0,none⟩) is.length is.length/\s7=.slice (some ⟨o3,0,none⟩) is.length is.length/\Hid (Blk wx o1 4 (bcells (marks a r))/\Blk wx o2 3 (icells (counts a r))/\Blk wx o3 4 (bcells (inKeys a))/\Below wr.heap.size wr wx))
      case first=>
       go_region_held3 (fun w'=>w'.cell? ⟨w.heap.size,0,none⟩=some (.slice A is.length c)/\w'.cell? ⟨w.heap.size,1,none⟩=some (.int .i64 r))
        (first|go_keep|exact HS.out _ (by(first|assumption|exact Below.refl _ _|exact(Below.refl _ _).drew|exact Below.drew (by assumption)))) (first
        | (go_at_call 53;(with_reducible refine(U.out _ ?_).mono ?_);(first|assumption|exact Below.refl _ _|exact(Below.refl _ _).drew|exact Below.drew (by assumption));rintro e1 wc1 ⟨hb1,o1,rfl,X⟩)
        | (go_at_call 67;(with_reducible refine(ag.out _ ?_).mono ?_);(first|assumption|exact Below.refl _ _|exact(Below.refl _ _).drew|exact Below.drew (by assumption));rintro e2 wc2 ⟨m,an,o2,rfl,P⟩)
        | (go_at_call 62;(with_reducible refine(ai.out _ ?_).mono ?_);(first|assumption|exact Below.refl _ _|exact(Below.refl _ _).drew|exact Below.drew (by assumption));rintro e3 wc3 ⟨ar,ah,o3,rfl,av⟩))
       all_goals
        go_wp2;go_meet
       have B:=X.below an X.lt;exact⟨o1,o2,o3,rfl,rfl,rfl,hid ⟨B.below ah B.lt,P.below ah P.lt,av,ar⟩⟩
      case rest=>
       obtain⟨o1,o2,o3,rfl,rfl,rfl,HO⟩:=hcut;have K:Hid (Below w.heap.size w wc):=hid (d.out.trans (HO.out.2.2.2.mono d.out.size));have J:Hid ((marks a r).length=is.length/\(counts a r).length=is.length/\(inKeys a).length=is.length):=hid ⟨by rw[zbe k.out (by omega),g],by
        unfold counts;rw[zb1,zcd,List.length_replicate,g],by rw[zf5 k.out,g]⟩
       have am:Hid (∀i,(counts a r).getD i 0<=4000000):=hid (fun i=>by
        have h1:∀j,(Gr.refs (a.take j)).length<=2000*j:=fun j=>by
         induction j with
         |zero=>simp[Gr.refs]
         |succ j ih=>
          by_cases hj:j<a.length
          ·rw[zdb a j hj];have:=t.out _ (List.getElem_mem hj);simp only[List.length_append];omega
          ·rw[List.take_of_length_le (by omega)];rw[List.take_of_length_le (by omega)]at ih;omega
        have h2:=h1 a.length;rw[List.take_length]at h2;unfold counts;have z:=zda (Gr.refs a) (cstep (List.replicate a.length 0) r) i;have O:=zee (List.replicate a.length 0) r i;have h5:(List.replicate a.length 0).getD i 0=0:=by simp[List.getD_eq_getElem?_getD,List.getElem?_replicate];split<;>rfl
        omega)
       clear q0 q1 g U ag ai HS;go_upto_region 11 with fail;go_loop [8] (fun s8=>∃i:Nat,i<=is.length/\s8=.int .i64 i/\Hid ((List.range i).all (rnode a r)=true)) (fun s8=>is.length-(intOf s8).toNat)
       case atStart=>exact⟨0,by omega,rfl,hid rfl⟩
       case round=>
        obtain⟨i,hi,rfl,HI⟩:=hrel;by_cases hli:i<is.length
        ·have V:(i:Int)<(is.length:Int):=by omega
         obtain⟨p,hp⟩:=ex ((marks a r).getD i false)
         obtain⟨q,hq⟩:=ex ((inKeys a).getD i false)
         obtain⟨v,hv⟩:=ex ((counts a r).getD i 0)
         have hvb:v<=4000000:=by rw[<-hv];exact am.out i
         have z1:wc.cell? ⟨o1,i,none⟩=some (.bool p):=by rw[HO.out.1.cell,zah (by have:=J.out;omega),hp]
         have z2:wc.cell? ⟨o2,i,none⟩=some (.int .i64 (v:Int)):=by rw[HO.out.2.1.cell,zad (by have:=J.out;omega),hv]
         have z3:wc.cell? ⟨o3,i,none⟩=some (.bool q):=by rw[HO.out.2.2.1.cell,zah (by have:=J.out;omega),hq]
         have s:Hid (rnode a r i=(p && !(q && v != 1))):=hid (by unfold rnode mkd;rw[hp,hq,hv]);have ac:Hid (rnode a r i=true->(List.range (i+1)).all (rnode a r)=true):=hid (fun h=>by rw[zq6,HI.out,h];rfl);have Y:Hid (rnode a r i=false->rwell sclX is (r:Int)=false):=hid (fun h=>by rw[L.out];exact ziy hli h);have hib:i<=1000:=by omega
         clear hp hq hv;cases p with
         |false=>
          have l:Hid (rwell sclX is (r:Int)=false):=hid (Y.out (by rw[s.out];rfl));go_wp2;go_ret;exact⟨by rw[l.out]<;>rfl,K.out⟩
         |true=>
          cases q with
          |false=>
           have I:Hid ((List.range (i+1)).all (rnode a r)=true):=hid (ac.out (by rw[s.out];rfl));go_wp2;go_round
           case rel=>exact⟨i+1,by omega,by go_num,I⟩
           case measure=>simp[intOf];omega
          |true=>
           by_cases hv1:v=1
           ·subst hv1;have I:Hid ((List.range (i+1)).all (rnode a r)=true):=hid (ac.out (by rw[s.out];rfl));go_wp2;go_round
            case rel=>exact⟨i+1,by omega,by go_num,I⟩
            case measure=>simp[intOf];omega
           ·have l:Hid (rwell sclX is (r:Int)=false):=hid (Y.out (by
             rw[s.out];have:(v != 1)=true:=by simpa using hv1
             rw[this];rfl))
            have Z:¬(v:Int)=1:=by omega
            have hvb2:((v:Int)==1)=false:=by rw[beq_eq_false_iff_ne];exact Z
            have hvn:((v:Int) != 1)=true:=by rw[bne_iff_ne];exact Z
            go_wp2;go_ret;exact⟨by rw[l.out]<;>rfl,K.out⟩
        ·have V:¬(i:Int)<(is.length:Int):=by omega
         have l:Hid (rwell sclX is (r:Int)=true):=hid (by rw[L.out];have:=HI.out;rwa[show i=is.length from by omega]at this);go_wp2;go_ret;exact⟨by rw[l.out]<;>rfl,K.out⟩
   ·have aj:(is.length:Int)<=root:=by omega
    have l:Hid (rwell sclX is root=false):=hid (u.out (.inr (by unfold inR;rw[decide_eq_false h2,Bool.and_false])));go_wp2;go_ret;exact⟨by rw[l.out]<;>rfl,L1.out⟩
  ·have aq:root<0:=by omega
   have l:Hid (rwell sclX is root=false):=hid (u.out (.inr (by unfold inR;rw[decide_eq_false h1,Bool.false_and])));go_wp2;go_ret;exact⟨by rw[l.out]<;>rfl,L1.out⟩
theorem zrc (d:Nat) (h:d<10) (i:Int) (hi:i=d) (k:Int) (hk:k=d+1) (W:World):(Instr.slice 9 (.string ⟨#[48,49,50,51,52,53,54,55,56,57]⟩) (some (.int .i64 i)) (some (.int .i64 k)) none).run prog W=.ok (.string ⟨(Lib.decDigits d).toArray⟩) W:=by
 rw[Lib.decDigits_one h];subst hi;subst hk;obtain rfl|rfl|rfl|rfl|rfl|rfl|rfl|rfl|rfl|rfl:d=0\/d=1\/d=2\/d=3\/d=4\/d=5\/d=6\/d=7\/d=8\/d=9:=by omega
 all_goals kernel_rfl
theorem ztp {n:Nat} (h:¬n<10):Lib.decDigits n=Lib.decDigits (n /10)++Lib.decDigits (n%10):=by
 rw[Lib.decDigits_one (Nat.mod_lt _ (by omega)),Lib.decDigits.eq_1 n,dif_neg h]
theorem ziz:∀(f n:Nat),n<f->n<=999999999->∀w:World,Calls prog 87 #[.int .i64 n] w fun e w'=>e=.returned (.string ⟨(Lib.decDigits n).toArray⟩)/\Below w.heap.size w w':=by
 intro f
 induction f with
 |zero=>intro n h;omega
 |succ f ih=>
  intro n hn hb w;by_cases h:n<10
  ·have r:(n:Int)<10:=by omega
   have k:=zrc n h (n:Int) rfl ((n:Int)+1) rfl;go_enter func87,ntmps87;go_wp2;go_ret;exact⟨rfl,Below.refl _ _⟩
  ·have r:¬(n:Int)<10:=by omega
   have k:=zrc (n%10) (Nat.mod_lt _ (by omega)) ((n%10:Nat):Int) rfl (((n%10:Nat):Int)+1) rfl;have v:(n:Int).tdiv 10=((n /10:Nat):Int):=by rw[Int.tdiv_eq_ediv_of_nonneg (by omega)];rfl
   have y:(n:Int).tmod 10=((n%10:Nat):Int):=by rw[Int.tmod_eq_emod_of_nonneg (by omega)];rfl
   have l:=ztp h;have m:Hid (∀x:WB w.heap.size w,Calls prog 87 #[.int .i64 ((n /10:Nat):Int)] x.w fun e w'=>e=.returned (.string ⟨(Lib.decDigits (n /10)).toArray⟩)/\Below w.heap.size w w'):=Lib.hid (fun x=>(ih (n /10) (by omega) (by omega) x.w).mono (fun _ _ ⟨o,z⟩=>⟨o,x.h.trans (z.mono x.h.size)⟩));obtain⟨a,j⟩:=ex (Lib.decDigits (n /10))
   obtain⟨b,c⟩:=ex (Lib.decDigits (n%10))
   obtain⟨q,g⟩:=ex (n /10)
   obtain⟨d,i⟩:=ex (n%10)
   have hadd:=zac a b (by
    have t:=Gr.dec_len (n /10) (by omega);have u:=Gr.dec_len (n%10) (by omega);rw[j]at t;rw[c]at u;omega)
   have s:Hid (Lib.decDigits n=a++b):=Lib.hid (by rw[l,j,c]);rw[j,g]at m;rw[c,i]at k;rw[g]at v;rw[i]at y;have hd9:d<=9:=by omega
   have hqb:q<=99999999:=by omega
   clear l j c g i ih;go_enter func87,ntmps87;go_upto_region 3 with fail;refine zaa w.heap.size w (by kernel_rfl) (by kernel_rfl) (Below.refl _ _) ?_
   repeat (go_big_quiet_step (((first| (with_reducible refine Calls.grow (m.out _))))))
   refine wpQuiet_nil ?_;rintro _ ⟨p,rfl⟩;go_wp2;go_ret;exact⟨by rw[s.out]<;>rfl,p.h⟩
theorem zld:∀(x y:Gr.Str),Op.bytesLess x y=Gr.ltS x y
 | [],[]=>rfl
 |_::_,[]=>rfl
 | [],_::_=>rfl
 |a::x,b::y=>by
  rw[Op.bytesLess,zld x y,Gr.ltS]
  congr 1
namespace Gr
theorem zrd (t:Str) (a b:List Str) (h:∀y∈a,ltS t y=true):insR t (a++b)=a++insR t b:=by
 induction a with
 |nil=>rfl
 |cons y a ih=>
  rw[List.cons_append,insR,if_pos (h y (.head _)),ih (fun z c=>h z (.tail _ c))];rfl
theorem zwo (t:Str) (L:List Str) (k:Nat) (hk:k<=L.length) (h1:∀y∈L.drop k,ltS t y=true) (h2:∀j,(h:j<L.length)->j+1=k->ltS t L[j]=false):insL L t=L.take k++t::L.drop k:=by
 unfold insL;have e:L.reverse=(L.drop k).reverse++(L.take k).reverse:=by rw[<-List.reverse_append,List.take_append_drop]
 rw[e,zrd t _ _ (fun y c=>h1 y (List.mem_reverse.1 c)),List.reverse_append,List.reverse_reverse];have b:(insR t (L.take k).reverse).reverse=L.take k++[t]:=by
  cases k with
  |zero=>simp[insR]
  |succ k=>
   have a:k<L.length:=by omega
   rw[List.take_succ_eq_append_getElem a,List.reverse_append,List.reverse_singleton,List.singleton_append,insR,if_neg (by rw[h2 k a rfl];decide)];simp
 rw[b];simp
def wand (L:List Str) (t:Str) (k:Nat):List Str:=L.take k++t::L.drop k
theorem zle (L:List Str) (t:Str) (k:Nat) (hk:k<=L.length):(wand L t k).length=L.length+1:=by
 unfold wand;simp;omega
theorem zwp (L:List Str) (t:Str) (k:Nat) (hk:k<=L.length):(wand L t k)[k]? =some t:=by
 unfold wand;rw[List.getElem?_append_right (by simp;omega)];simp[Nat.min_eq_left hk]
theorem ztq (L:List Str) (t:Str) (k:Nat) (hk:k<L.length):(wand L t (k+1))[k]? =some L[k]:=by
 unfold wand;rw[List.getElem?_append_left (by simp;omega),List.getElem?_take,if_pos (by omega),List.getElem?_eq_getElem hk]
theorem zre (L:List Str) (t:Str) (k:Nat) (hk:k<L.length):((wand L t (k+1)).set k t).set (k+1) L[k]=wand L t k:=by
 unfold wand;apply List.ext_getElem?;intro i;have a:(L.take (k+1)).length=k+1:=by simp;omega
 have hl2:(L.take k).length=k:=by simp;omega
 simp only[List.getElem?_set,List.length_set,List.length_append,List.length_cons,List.length_drop,a];by_cases h1:k+1=i
 ·grind
 ·grind
theorem zrf (ns:List Nd) (f:Nat) (x:Nd) (i:Nat) (h:i<x.items.length):(ents ns f x).take (i+1)=(ents ns f x).take i++[(if x.kind=10 then printF ns f (x.keys.getD i 0)else[])++printF ns f (x.items.getD i 0)]:=by
 have a:i<(ents ns f x).length:=by unfold ents;simpa using h
 rw[List.take_succ_eq_append_getElem a]
 congr 2
 unfold ents;simp
def entT (ns:List Nd) (f:Nat) (x:Nd) (k:Nat):List Str:=if x.kind=10/\x.ord=false then((ents ns f x).take k).foldl insL []else(ents ns f x).take k
theorem zrg (ns:List Nd) (f:Nat) (x:Nd):entT ns f x 0=[]:=by unfold entT;split<;>simp
theorem zrh (ns:List Nd) (f:Nat) (x:Nd) (k:Nat) (h:x.items.length<=k):entT ns f x k=entS ns f x:=by
 have hl:(ents ns f x).length=x.items.length:=by unfold ents;simp
 unfold entT entS sortS;rw[List.take_of_length_le (by omega)]
theorem ztr (ns:List Nd) (f:Nat) (x:Nd) (k:Nat) (h:k<=x.items.length):(entT ns f x k).length=k:=by
 have hl:(ents ns f x).length=x.items.length:=by unfold ents;simp
 unfold entT;split
 ·rw[(zij _ []).length_eq];simp;omega
 ·simp;omega
theorem zri (ns:List Nd) (f:Nat) (x:Nd) (k:Nat) (h:k<x.items.length):entT ns f x (k+1)=if x.kind=10/\x.ord=false then insL (entT ns f x k) ((if x.kind=10 then printF ns f (x.keys.getD k 0)else[])++printF ns f (x.items.getD k 0))
 else entT ns f x k++[(if x.kind=10 then printF ns f (x.keys.getD k 0)else[])++printF ns f (x.items.getD k 0)]:=by
 unfold entT;rw[zrf ns f x k h];by_cases hm:x.kind=10/\x.ord=false
 ·grind
 ·grind
theorem zfk (l:List Str) (i:Nat):(l.take i).flatten.length<=l.flatten.length:=by
 have:l.flatten=(l.take i).flatten++(l.drop i).flatten:=by rw[<-List.flatten_append,List.take_append_drop]
 rw[this,List.length_append];omega
end Gr
def strL:Lay Gr.Str:={enc:=fun x=>[.string ⟨x.toArray⟩],sz:=1,len:=fun _=>rfl,one:=fun x u hu=>by simp at hu;subst hu;rfl,pos:=by omega}
theorem strT:SliceT Tryz.prog strL 96 9 16:=zbx strL 96 9 (.string ⟨#[]⟩) 16 Tryz.underlying96 (by kernel_rfl) rfl (by omega)
theorem zem (l:List Gr.Str):strL.all l=l.map (fun x=>Value.string ⟨x.toArray⟩):=by
 induction l with
 |nil=>rfl
 |cons x l ih=>
  have e:strL.all (x::l)=strL.enc x++strL.all l:=rfl;rw[e,ih];rfl
theorem zuo {w:World} {B:Nat} {A:Option Addr} {l:List Gr.Str} {k:Nat} (h:RowAt strL w B A l) (hk:k<l.length):∃ad,A=some ad/\ad.block<B/\w.cell? (ad.add k)=some (.string ⟨l[k].toArray⟩):=by
 obtain⟨ad,a,b,c,_⟩:=h.get hk;refine⟨ad,a,b,?_⟩;have:=c (.string ⟨l[k].toArray⟩) rfl;rwa[show k*strL.sz=k from Nat.mul_one k]at this
theorem zj4 {w:World} {base n c g:Nat} {l:List Gr.Str} (h:OwnRow strL w base 9 (.slice (some ⟨g,0,none⟩) n c) l):∃cur,Blk w g 9 cur/\base<=g/\(∀j (hj:j<l.length),w.cell? ⟨g,j,none⟩=some (.string ⟨l[j].toArray⟩))/\
 (∀j,w.frozen? ⟨g,j,none⟩=false)/\∀j x,j<l.length->OwnRow strL (w.setCell ⟨g,j,none⟩ (.string ⟨x.toArray⟩)) base 9 (.slice (some ⟨g,0,none⟩) n c) (l.set j x):=by
 obtain⟨o,r⟩:=h;rcases r with⟨s,_⟩|⟨g2,cap,cur,p,m,q,i,f,e,a⟩
 ·cases s
 ·injection p with e1 e2 e3
  injection e1 with e1
  injection e1 with e1 _ _
  subst e1;subst e2;subst e3;have d:Blk w g 9 cur:=q;have b:strL.sz=1:=rfl;rw[b,Nat.mul_one]at a;refine⟨cur,d,m,fun j hj=>?_,d.frozen,fun j x hj=>?_⟩
  ·rw[d.cell];have k:(cur.toList.take l.length)[j]? =some (.string ⟨l[j].toArray⟩):=by rw[a,zem];simp[hj]
   rw[List.getElem?_take,if_pos hj]at k;simpa using k
  ·refine⟨by rw[zem];rw[zem]at o;simpa using o,.inr ⟨g,c,cur.setIfInBounds j (.string ⟨x.toArray⟩),by rw[List.length_set],m,d.set_ j _,by rw[List.length_set];exact i,f,by simpa using e,?_⟩⟩;rw[b,Nat.mul_one,List.length_set];rw[zem]at a ⊢;rw[List.map_set,<-a,<-List.take_set];simp
theorem zlf {w:World} {base n c:Nat} {E:TypeId} {A:Option Addr} {l:List Gr.Str} (h:OwnRow strL w base E (.slice A n c) l):RowAt strL w w.heap.size A l:=by
 obtain⟨A',c',e,a⟩:=h.form;injection e with e1 _ _
 subst e1;exact a
theorem zts {w:World} {base n c:Nat} {A:Option Addr} {l:List Gr.Str} (h:OwnRow strL w base 9 (.slice A n c) l) (hl:0<l.length):∃g,A=some ⟨g,0,none⟩:=by
 obtain⟨h0,d⟩:=h;rcases d with⟨h2,h3⟩|⟨a,cap,cur,b,hb,hg,hc1,hc2,hc3,hc4⟩
 ·omega
 ·injection b with e1 e2 e3
  exact⟨a,e1⟩
theorem ztt (k:Nat) (h:k<=11) (i:Int) (hi:i=k) (j:Int) (hj:j=k+1) (W:World):(Instr.slice 9 (.string ⟨#[97,98,99,100,101,102,103,104,105,106,107,108]⟩) (some (.int .i64 i)) (some (.int .i64 j)) none).run prog W=.ok (.string ⟨([UInt8.ofNat (97+k)]:Gr.Str).toArray⟩) W:=by
 subst hi;subst hj;obtain rfl|rfl|rfl|rfl|rfl|rfl|rfl|rfl|rfl|rfl|rfl|rfl:k=0\/k=1\/k=2\/k=3\/k=4\/k=5\/k=6\/k=7\/k=8\/k=9\/k=10\/k=11:=by omega
 all_goals kernel_rfl
def headS (x:Gr.Nd):Gr.Str:=UInt8.ofNat (97+x.kind.toNat)::(Lib.decDigits x.text.length++58::(x.text++(Lib.decDigits x.items.length++[40])))
theorem zg9 {ns:List Gr.Nd} {f i:Nat} {x:Gr.Nd} (h:ns[i]? =some x):printF ns (f+1) i=headS x++(entS ns f x).flatten++(41::(if x.ord=true then[33]else[])):=by
 rw[zam h];unfold headS;simp
structure PrOk (ns:List Gr.Nd) (P:Nat->Prop) (F b:Nat):Prop where
 refs:Refs ns
 next:∀u,P u->∀v∈Gr.succ ns u,P v
 kind:NodesOk ns
 lens:∀n∈ns,n.keys.length<=1000/\n.items.length<=1000/\n.text.length<=1000000
 len:∀f i,f<=F->P i->i<ns.length->(printF ns f i).length<=b
 small:b<=4611686018427387903
structure PM (w wr:World) (gc nc:Array Value) (v:Value) (L:List Gr.Str):Prop where
 below:Below w.heap.size w wr
 gbox:Blk wr w.heap.size 24 gc
 nbox:Blk wr (w.heap.size+1) 35 nc
 own:OwnRow strL wr (w.heap.size+2) 9 v L
 hd:w.heap.size+2<=wr.heap.size
section
variable {w wr w2:World} {gc nc:Array Value} {v v':Value} {L L':List Gr.Str}
theorem PM.later (h:PM w wr gc nc v L) (hb:Below wr.heap.size wr w2):PM w w2 gc nc v L:=
 ⟨h.below.trans (hb.mono h.below.size),h.gbox.below hb h.gbox.lt,h.nbox.below hb h.nbox.lt,h.own.later hb,Nat.le_trans h.hd hb.size⟩
theorem PM.alloc (h:PM w wr gc nc v L) (o:Obj):PM w (wr.alloc o) gc nc v L:=h.later ((Below.refl _ _).alloc (Nat.le_refl _) _)
theorem PM.drewN (h:PM w wr gc nc v L) (n:Nat):PM w (wr.drewN n) gc nc v L:=h.later (below_drewN (Below.refl _ _) n)
theorem PM.grown (h:PM w wr gc nc v L) (ho:OwnRow strL w2 (w.heap.size+2) 9 v' L') (hg:wr.grownBy w2 v.ownBlock):PM w w2 gc nc v' L':=
 ⟨h.below.trans ((h.own.grown_below hg h.hd).mono (by omega)),zbd h.gbox h.own hg (by omega),zbd h.nbox h.own hg (by omega),ho,Nat.le_trans h.hd (h.own.grown_below hg h.hd).size⟩
end
theorem znd (A:Option Addr) (c:Nat) (root:Int) (vs:List NV) (ns:List Gr.Nd) (P:Nat->Prop) (F b:Nat) (hok:PrOk ns P F b) (_hnl:ns.length<=1000):
 ∀(f i:Nat) (w:World),f<=F->i<ns.length->P i->Tall' ns f i->GAt w w.heap.size A vs ns->
 Calls prog 68 #[.agg #[.slice A ns.length c,.int .i64 root],.int .i64 i] w fun e w'=>e=.returned (.string ⟨(printF ns f i).toArray⟩)/\Below w.heap.size w w':=by
 intro f
 induction f with
 |zero=>intro i w _ _ _ h;exact h.elim
 |succ f ih=>
  intro i w hF hi hP hT h;have ae:ns[i]∈ns:=List.getElem_mem hi;obtain⟨bH,bu,bJ⟩:=hok.lens _ ae;obtain⟨bI,br,aV⟩:=hok.kind _ ae;have aD:=zc7 hi;have ab:=zg9 (f:=f) (List.getElem?_eq_getElem hi);have bg:=hok.len (f+1) i hF hP hi;have hsm:=hok.small;have aK:Hid (∀x∈ns[i].keys++ns[i].items,x<ns.length/\(printF ns f x).length<=b/\∀W,GAt W W.heap.size A vs ns->Calls prog 68 #[.agg #[.slice A ns.length c,.int .i64 root],.int .i64 x] W fun e w'=>e=.returned (.string ⟨(printF ns f x).toArray⟩)/\Below W.heap.size W w'):=hid (fun x hx=>by
   have a:=hok.refs _ ae x hx;have h2:=hok.next i hP x (by rw[aD];exact hx);exact⟨a,hok.len f x (by omega) h2 a,fun W hW=>ih x W (by omega) a h2 (hT x (by rw[aD];exact hx)) hW⟩)
  have H:=hid h;obtain⟨z,ks,is,rfl,O⟩:=h.node hi;obtain⟨ka,kn,kc⟩:=ks;obtain⟨ia,bs,ic⟩:=is;obtain⟨n,hn⟩:=ex (ns[i])
  rw[hn]at O bH bu bJ bI br aV ab aK;obtain rfl:kn=n.keys.length:=O.kn;obtain rfl:bs=n.items.length:=O.inn;obtain⟨Z,aG⟩:=ex (w.alloc (.cells #[.slice (some z) ns.length c,.int .i64 root] 24))
  have l1:Below w.heap.size w Z:=by rw[<-aG];exact(Below.refl _ _).alloc (Nat.le_refl _) _
  have b1:Blk Z w.heap.size 24 #[.slice (some z) ns.length c,.int .i64 root]:=by rw[<-aG];exact Blk.new _ _ _
  have bK:Z.heap.size=w.heap.size+1:=by rw[<-aG];simp
  have g0:Z.cell? ⟨w.heap.size,0,none⟩=some (.slice (some z) ns.length c):=b1.cell 0;have K:=O.lt;have c0:Z.cell? (z.add (i*5))=some (.int .i64 n.kind):=(l1.cell K).trans O.c0;have c1:Z.cell? {block:=(z.add (i*5)).block,off:=(z.add (i*5)).off+1}=some (.string ⟨n.text.toArray⟩):=(l1.cell (by exact K)).trans O.c1;have c2:Z.cell? {block:=(z.add (i*5)).block,off:=(z.add (i*5)).off+2}=some (.bool n.ord):=(l1.cell (by exact K)).trans O.c2;have c3:Z.cell? {block:=(z.add (i*5)).block,off:=(z.add (i*5)).off+3}=some (.slice ka n.keys.length kc):=(l1.cell (by exact K)).trans O.c3;have c4:Z.cell? {block:=(z.add (i*5)).block,off:=(z.add (i*5)).off+4}=some (.slice ia n.items.length ic):=(l1.cell (by exact K)).trans O.c4;have hiI:(i:Int)<(ns.length:Int):=by omega
  have bB:Hid (∀W,Below w.heap.size w W->RowAt intL W w.heap.size ka n.keys/\RowAt intL W w.heap.size ia n.items):=hid (fun W hW=>⟨O.keys.below hW,O.items.below hW⟩);have L1:=hid l1;have aW:=hid b1;have I:=hid ab;have aQ:=hid bg;clear ih hT h ab aD ae O hn l1 b1 K bg hP hF;go_enter func68,ntmps68;go_upto_region 2 with fail;obtain⟨w2,aS⟩:=ex (Z.alloc (.cells #[.int .i64 n.kind,.string ⟨n.text.toArray⟩,.bool n.ord,.slice ka n.keys.length kc,.slice ia n.items.length ic] 35))
  obtain⟨nc,aH⟩:∃nc:Array Value,#[.int .i64 n.kind,.string ⟨n.text.toArray⟩,.bool n.ord,.slice ka n.keys.length kc,.slice ia n.items.length ic]=nc:=⟨_,rfl⟩
  obtain⟨gc,aL⟩:∃gc:Array Value,#[.slice (some z) ns.length c,.int .i64 root]=gc:=⟨_,rfl⟩
  obtain⟨r,aT⟩:∃r:Nat,n.kind=(r:Int):=⟨n.kind.toNat,by omega⟩
  have aA:r<=11:=by omega
  have aa:=hid aT;have l:Hid (nc[0]? =some (.int .i64 (r:Int))/\nc[1]? =some (.string ⟨n.text.toArray⟩)/\nc[2]? =some (.bool n.ord)/\nc[3]? =some (.slice ka n.keys.length kc)/\nc[4]? =some (.slice ia n.items.length ic)):=hid (by rw[<-aH,<-aT];exact⟨rfl,rfl,rfl,rfl,rfl⟩);have ah:Hid (gc[0]? =some (.slice (some z) ns.length c)/\gc[1]? =some (.int .i64 root)):=hid (by rw[<-aL];exact⟨rfl,rfl⟩);have T:Hid (PM w w2 gc nc (.slice none 0 0) []):=hid (by
   have hb:=Blk.new Z 35 #[.int .i64 n.kind,.string ⟨n.text.toArray⟩,.bool n.ord,.slice ka n.keys.length kc,.slice ia n.items.length ic];rw[bK]at hb;rw[<-aS,<-aH,<-aL];exact⟨L1.out.alloc (by omega) _,aW.out.alloc _,hb,OwnRow.nil,by simp;omega⟩)
  have bc:Hid (∀W,Below w.heap.size w W->RowAt intL W w.heap.size ka n.keys/\RowAt intL W w.heap.size ia n.items):=bB;(try rw[aS]);clear aT aS aH aL c0 c1 c2 c3 c4 g0 aW;have aZ:=ztt r aA (r:Int) rfl ((r:Int)+1) rfl;have a7:=Gr.dec_len n.text.length (by omega);have bf:=Gr.dec_len n.items.length (by omega);have aM:=hid (fun(x:WB w2.heap.size w2)=>(ziz (n.text.length+1) n.text.length (by omega) (by omega) x.w).mono (fun _ _ ⟨e1,e2⟩=>(⟨e1,x.h.trans (e2.mono x.h.size)⟩:_/\Below w2.heap.size w2 _)));have aF:=hid (fun(x:WB w2.heap.size w2)=>(ziz (n.items.length+1) n.items.length (by omega) (by omega) x.w).mono (fun _ _ ⟨e1,e2⟩=>(⟨e1,x.h.trans (e2.mono x.h.size)⟩:_/\Below w2.heap.size w2 _)));have aY:Hid (headS n=UInt8.ofNat (97+r)::(Lib.decDigits n.text.length++58::(n.text++(Lib.decDigits n.items.length++[40])))):=hid (by unfold headS;rw[aa.out];rfl);obtain⟨d1,ac⟩:=ex (Lib.decDigits n.text.length)
  obtain⟨d2,V⟩:=ex (Lib.decDigits n.items.length)
  obtain⟨a0,Y⟩:∃a0:Gr.Str,[UInt8.ofNat (97+r)]=a0:=⟨_,rfl⟩
  obtain⟨a1,af⟩:∃a1:Gr.Str,a0++d1=a1:=⟨_,rfl⟩
  obtain⟨a2,aj⟩:∃a2:Gr.Str,a1++[58]=a2:=⟨_,rfl⟩
  obtain⟨a3,ao⟩:∃a3:Gr.Str,a2++n.text=a3:=⟨_,rfl⟩
  obtain⟨a4,ai⟩:∃a4:Gr.Str,a3++d2=a4:=⟨_,rfl⟩
  obtain⟨hd,aN⟩:∃hd:Gr.Str,a4++[40]=hd:=⟨_,rfl⟩
  have ag:Hid (headS n=hd):=hid (by rw[aY.out,ac,V,<-aN,<-ai,<-ao,<-aj,<-af,<-Y];simp);rw[ac]at a7 aM;rw[V]at bf aF;have r1:=zac a0 d1 (by rw[<-Y];simp;omega);have bP:a1.length<=100:=by rw[<-af,<-Y];simp;omega
  have r2:=zac a1 [58] (by simp;omega);have bq:a2.length<=101:=by rw[<-aj];simp;omega
  have r3:=zac a2 n.text (by omega);have bE:a3.length<=1000101:=by rw[<-ao];simp;omega
  have r4:=zac a3 d2 (by omega);have bD:a4.length<=1000201:=by rw[<-ai];simp;omega
  have r5:=zac a4 [40] (by simp;omega);rw[Y]at aZ;rw[af]at r1;rw[aj]at r2;rw[ao]at r3;rw[ai]at r4;rw[aN]at r5;have p0:∀x:WB w2.heap.size w2,x.w.cell? ⟨w.heap.size+1,0,none⟩=some (.int .i64 (r:Int)):=fun x=>by rw[(T.out.later x.h).nbox.cell];exact l.out.1
  have p1:∀x:WB w2.heap.size w2,x.w.cell? ⟨w.heap.size+1,1,none⟩=some (.string ⟨n.text.toArray⟩):=fun x=>by rw[(T.out.later x.h).nbox.cell];exact l.out.2.1
  have p4:∀x:WB w2.heap.size w2,x.w.cell? ⟨w.heap.size+1,4,none⟩=some (.slice ia n.items.length ic):=fun x=>by rw[(T.out.later x.h).nbox.cell];exact l.out.2.2.2.2
  clear ac V Y af aj ao ai aN a7 bf bP bq bE bD aY;refine zaa w2.heap.size w2 (by kernel_rfl) (by kernel_rfl) (Below.refl _ _) ?_
  repeat (go_big_quiet_step (((first| (with_reducible refine Calls.grow (aM.out _))| (with_reducible refine Calls.grow (aF.out _))))))
  refine wpQuiet_nil ?_;rintro _ ⟨wz,rfl⟩;obtain⟨w3,av⟩:=ex wz.w
  have bG:Hid (PM w w3 gc nc (.slice none 0 0) []):=hid (by rw[<-av];exact T.out.later wz.h);(try rw[av]);clear av p0 p1 p4 aZ r1 r2 r3 r4 r5 aM aF T;go_upto_region 5 with fail;go_loopw [7,8] (fun s7 s8 wr=>∃(k:Nat) (L:List Gr.Str) (AL:Option Addr) (cL:Nat),k<=n.items.length/\s8=.int .i64 k/\s7=.slice AL L.length cL/\Hid (PM w wr gc nc (.slice AL L.length cL) L/\L=entT ns f n k)) (fun _ s8 _=>n.items.length-(intOf s8).toNat)
  case atStart=>exact⟨0,[],none,0,by omega,rfl,rfl,hid ⟨bG.out,(zrg _ _ _).symm⟩⟩
  case round=>
   obtain⟨k,L,AL,cL,hk,rfl,rfl,G⟩:=hrel;obtain⟨m,bN⟩:∃m,m=wr:=⟨_,rfl⟩
   subst bN;have aU:L.length=k:=by rw[G.out.2];exact ztr _ _ _ _ hk
   have s4:m.cell? ⟨w.heap.size+1,4,none⟩=some (.slice ia n.items.length ic):=by rw[G.out.1.nbox.cell];exact l.out.2.2.2.2
   by_cases hlk:k<n.items.length
   ·have ba:(k:Int)<(n.items.length:Int):=by omega
    obtain⟨y,hy⟩:=ex (n.items[k])
    obtain⟨bh,rfl,_,y0⟩:=zae (bc.out m G.out.1.below).2 hlk;rw[hy]at y0;have bi:y∈n.keys++n.items:=List.mem_append_right _ (by rw[<-hy];exact List.getElem_mem hlk);have az:=hid (aK.out y bi);have bd:Hid (n.items.getD k 0=y):=hid (by rw[za4 hlk,hy]);have am:=hid (zri ns f n k hlk);have q0:∀x:WB m.heap.size m,x.w.cell? ⟨w.heap.size,0,none⟩=some (.slice (some z) ns.length c):=fun x=>by rw[(G.out.1.later x.h).gbox.cell];exact ah.out.1
    have q1:∀x:WB m.heap.size m,x.w.cell? ⟨w.heap.size,1,none⟩=some (.int .i64 root):=fun x=>by rw[(G.out.1.later x.h).gbox.cell];exact ah.out.2
    have q4:∀x:WB m.heap.size m,x.w.cell? ⟨w.heap.size+1,4,none⟩=some (.slice (some bh) n.items.length ic):=fun x=>by rw[(G.out.1.later x.h).nbox.cell];exact l.out.2.2.2.2
    have qy:∀x:WB m.heap.size m,x.w.cell? (bh.add k)=some (.int .i64 (y:Int)):=fun x=>(x.h.cell (World.block_lt_of_cell? m _ y0)).trans y0
    have M:Hid (∀x:WB m.heap.size m,Calls prog 68 #[.agg #[.slice (some z) ns.length c,.int .i64 root],.int .i64 y] x.w fun e w'=>e=.returned (.string ⟨(printF ns f y).toArray⟩)/\Below m.heap.size m w'):=hid (fun x=>
     (az.out.2.2 x.w ((H.out.below (G.out.1.later x.h).below).more (G.out.1.later x.h).below.size)).mono (fun _ _ ⟨e1,e2⟩=>⟨e1,x.h.trans (e2.mono x.h.size)⟩))
    have aE:Hid ((printF ns f y).length<=b):=hid az.out.2.1;obtain⟨ti,be⟩:=ex (printF ns f y)
    rw[bd.out]at am;rw[be]at M aE am;have bx:k<=1000:=by omega
    clear hy bi y0 be;go_upto_region 7 with fail;clear s4;refine zaa m.heap.size m (by kernel_rfl) (by kernel_rfl) (Below.refl _ _) ?_
    repeat (go_big_quiet_step (((first| (with_reducible refine Calls.grow (M.out _))))))
    refine wpQuiet_nil ?_;rintro _ ⟨a8,rfl⟩;obtain⟨s,aC⟩:=ex a8.w
    have d:Hid (PM w s gc nc (.slice AL L.length cL) L):=hid (by rw[<-aC];exact G.out.1.later a8.h);(try rw[aC]);clear aC q0 q1 q4 qy;have q0:s.cell? ⟨w.heap.size+1,0,none⟩=some (.int .i64 (r:Int)):=by rw[d.out.nbox.cell];exact l.out.1
    have a9:Hid (n.kind=10->∃(tk:Gr.Str) (adk:Addr) (yk:Nat),n.keys.getD k 0=yk/\printF ns f yk=tk/\tk.length<=b/\ka=some adk/\k<n.keys.length/\(∀x:WB s.heap.size s,x.w.cell? (adk.add k)=some (.int .i64 (yk:Int)))/\
     ∀x:WB s.heap.size s,Calls prog 68 #[.agg #[.slice (some z) ns.length c,.int .i64 root],.int .i64 yk] x.w fun e w'=>e=.returned (.string ⟨tk.toArray⟩)/\Below s.heap.size s w'):=hid (fun bQ=>by
     have B:k<n.keys.length:=by rw[aV bQ];exact hlk
     obtain⟨yk,aJ⟩:=ex (n.keys[k])
     obtain⟨adk,bb,_,ay⟩:=zae (bc.out s d.out.below).1 B;rw[aJ]at ay;have a6:yk∈n.keys++n.items:=List.mem_append_left _ (by rw[<-aJ];exact List.getElem_mem B);have hY:=aK.out yk a6;refine⟨_,adk,yk,by rw[za4 B,aJ],rfl,hY.2.1,bb,B,fun x=>(x.h.cell (World.block_lt_of_cell? s _ ay)).trans ay,fun x=>?_⟩;exact(hY.2.2 x.w ((H.out.below (d.out.later x.h).below).more (d.out.later x.h).below.size)).mono (fun _ _ ⟨e1,e2⟩=>⟨e1,x.h.trans (e2.mono x.h.size)⟩))
    go_upto_region 8 with fail;go_upto_if 54 with fail;go_cut [9] (fun s9 wx=>∃t:Gr.Str,s9=.string ⟨t.toArray⟩/\Hid (PM w wx gc nc (.slice AL L.length cL) L/\t=(if n.kind=10 then printF ns f (n.keys.getD k 0)else[])++ti))
    case first=>
     by_cases hk10:r=10
     ·have C:((r:Int)==10)=true:=by rw[hk10];rfl
      have p:n.kind=10:=by rw[aa.out,hk10];rfl
      obtain⟨tk,adk,yk,e1,e2,htkl,rfl,B,qk,aq⟩:=a9.out p;have bn:=hid aq;have bz:Hid ((if n.kind=10 then printF ns f (n.keys.getD k 0)else[])=tk):=hid (by rw[if_pos p,e1,e2]);have hlk2I:(k:Int)<(n.keys.length:Int):=by omega
      have q0:∀x:WB s.heap.size s,x.w.cell? ⟨w.heap.size,0,none⟩=some (.slice (some z) ns.length c):=fun x=>by rw[(d.out.later x.h).gbox.cell];exact ah.out.1
      have q1:∀x:WB s.heap.size s,x.w.cell? ⟨w.heap.size,1,none⟩=some (.int .i64 root):=fun x=>by rw[(d.out.later x.h).gbox.cell];exact ah.out.2
      have q3:∀x:WB s.heap.size s,x.w.cell? ⟨w.heap.size+1,3,none⟩=some (.slice (some adk) n.keys.length kc):=fun x=>by rw[(d.out.later x.h).nbox.cell];exact l.out.2.2.2.1
      have rk:=zac tk ti (by have:=aE.out;omega);obtain⟨tt,aO⟩:=ex (tk++ti)
      have au:Hid (tt=(if n.kind=10 then printF ns f (n.keys.getD k 0)else[])++ti):=hid (by rw[bz.out,aO]);rw[aO]at rk;clear e1 e2 aq aO hk10 p;go_upto_region 9 with fail;refine zaa s.heap.size s (by kernel_rfl) (by kernel_rfl) (Below.refl _ _) ?_
      repeat (go_big_quiet_step (((first| (with_reducible refine Calls.grow (bn.out _))))))
      refine wpQuiet_nil ?_;rintro _ ⟨bt,rfl⟩;go_wp2;go_meet;exact⟨tt,rfl,hid ⟨d.out.later bt.h,au.out⟩⟩
     ·have C:((r:Int)==10)=false:=by rw[beq_eq_false_iff_ne];omega
      have au:Hid (ti=(if n.kind=10 then printF ns f (n.keys.getD k 0)else[])++ti):=hid (by rw[if_neg (by have:=aa.out;omega)];rfl);clear hk10;go_wp2;go_meet;exact⟨ti,rfl,hid ⟨d.out,au.out⟩⟩
    case rest=>
     obtain⟨t,rfl,HT⟩:=hcut;have bj:Hid (entT ns f n (k+1)=if n.kind=10/\n.ord=false then insL L t else L++[t]):=hid (by rw[am.out,<-HT.out.2,G.out.2]);have HLL:Hid (L.length=k):=hid aU;have bv:L.length<=1000:=by omega
     have aI:Hid (w.heap.size+2<=wc.heap.size):=hid HT.out.1.hd;clear a9 am d M aE az bd q0 aU bx;go_wp2_with (at_builtin;go_must (refine zab _ rfl (.tmp 64) (.tmp 66) 96 9 16 rfl strT (w.heap.size+2) (.slice AL L.length cL) L rfl (HT.out.1.own.alloc _) _ _ 1 [t] rfl (RowAt.lit1 _ _ rfl _ ?_) ?_ ?_ ?_))
     any_goals (first|rfl| (have:=aI.out;omega)| (have:=aI.out;simp;omega)| (rw[World.size_alloc];have:=aI.out;omega))
     intro v' w5 E hg bM;have bk:Hid (PM w w5 gc nc v' (L++[t])):=hid ((HT.out.1.alloc _).grown E hg);obtain⟨A5,c5,bm,_⟩:=E.form;subst bm;obtain⟨g,rfl⟩:=zts E (by simp);obtain⟨m5,an⟩:=ex ((L++[t]).length)
     have N:Hid (m5=L.length+1):=hid (by rw[<-an];simp);have hm51:1<=m5:=by rw[N.out];omega
     have hm5b:m5<=1001:=by rw[N.out];omega
     rw[an]at bk;(try rw[an]);clear E hg bM an;go_upto_region 12 with fail;go_loopw [10] (fun s10 wr=>∃j:Nat,j<=L.length/\s10=.int .i64 j/\Hid (PM w wr gc nc (.slice (some ⟨g,0,none⟩) m5 c5) (wand L t j)/\(¬(n.kind=10/\n.ord=false)->j=L.length)/\∀y∈L.drop j,ltS t y=true)) (fun s10 _=>(intOf s10).toNat)
     case atStart=>exact⟨L.length,Nat.le_refl _,by(have:=N.out;congr 1;omega),hid ⟨by have:=bk.out;unfold wand;rwa[List.take_length,List.drop_length],fun _=>rfl,by simp⟩⟩
     case round=>
      obtain⟨j,hj,rfl,HJ⟩:=hrel;have s0:wr.cell? ⟨w.heap.size+1,0,none⟩=some (.int .i64 (r:Int)):=by rw[HJ.out.1.nbox.cell];exact l.out.1
      have s2:wr.cell? ⟨w.heap.size+1,2,none⟩=some (.bool n.ord):=by rw[HJ.out.1.nbox.cell];exact l.out.2.2.1
      have R:Hid (m5=(wand L t j).length):=hid (by rw[zle _ _ _ hj,N.out]);have ak:Hid (((n.kind=10/\n.ord=false)->∀i,(h:i<L.length)->i+1=j->ltS t L[i]=false)->PM w wr gc nc (.slice (some ⟨g,0,none⟩) (wand L t j).length c5) (wand L t j)/\wand L t j=entT ns f n (k+1)):=hid (fun h=>by
       refine⟨by rw[<-R.out];exact HJ.out.1,?_⟩;rw[bj.out];by_cases hm:n.kind=10/\n.ord=false
       ·rw[if_pos hm,zwo t L j hj HJ.out.2.2 (h hm)];rfl
       ·rw[if_neg hm,HJ.out.2.1 hm];unfold wand;rw[List.take_length,List.drop_length])
      by_cases hk10:r=10
      ·have C:((r:Int)==10)=true:=by rw[hk10];rfl
       have p:n.kind=10:=by rw[aa.out,hk10];rfl
       obtain⟨o,J⟩:=ex n.ord
       rw[J]at s2;cases o with
       |true=>
        have U:=hid (ak.out (fun h=>by rw[J]at h;cases h.2));clear J p hk10;go_upto_region 12 with fail;go_quiet (fail);go_wp2;go_roundw
        case rel=>exact⟨k+1,wand L t j,some ⟨g,0,none⟩,c5,by omega,by go_num,by rw[<-R.out],hid ⟨U.out.1.drewN _,U.out.2⟩⟩
        case measure=>simp[intOf];omega
       |false=>
        cases j with
        |zero=>
         have U:=hid (ak.out (fun _ i _ h=>by omega));clear J p hk10;go_upto_region 12 with fail;go_quiet (fail);go_wp2;go_roundw
         case rel=>exact⟨k+1,wand L t 0,some ⟨g,0,none⟩,c5,by omega,by go_num,by rw[<-R.out],hid ⟨U.out.1.drewN _,U.out.2⟩⟩
         case measure=>simp[intOf];omega
        |succ j=>
         have ar:j<L.length:=by omega
         obtain⟨cur,hB,bL,aB,aw,X⟩:=zj4 HJ.out.1.own;have bO:=zle L t (j+1) hj;have z1:wr.cell? ⟨g,j+1,none⟩=some (.string ⟨t.toArray⟩):=by
          have a:=zwp L t (j+1) hj;rw[List.getElem?_eq_getElem (by omega)]at a;injection a with a
          rw[aB (j+1) (by omega),a]
         obtain⟨u,hu⟩:=ex (L[j])
         have z0:wr.cell? ⟨g,j,none⟩=some (.string ⟨u.toArray⟩):=by
          have a:=ztq L t j ar;rw[List.getElem?_eq_getElem (by omega),hu]at a;injection a with a
          rw[aB j (by omega),a]
         have hjb:j<=1000:=by omega
         have hjm:(j:Int)+1<(m5:Int):=by have:=N.out;omega
         have hjm0:(j:Int)<(m5:Int):=by have:=N.out;omega
         have bp:Hid (∀q,PM w (((wr.drewN q).setCell ⟨g,j,none⟩ (.string ⟨t.toArray⟩)).setCell ⟨g,j+1,none⟩ (.string ⟨u.toArray⟩)) gc nc (.slice (some ⟨g,0,none⟩) m5 c5) (wand L t j)):=hid (fun q=>by
          have hh:=HJ.out.1.drewN q;obtain⟨_,_,_,_,_,X⟩:=zj4 hh.own;have o1:=X j t (by omega);obtain⟨_,_,_,_,_,aP⟩:=zj4 o1;have o2:=aP (j+1) u (by rw[List.length_set];omega);rw[<-hu,zre L t j ar,hu]at o2;have hsz:w.heap.size+2<=g:=bL;refine⟨(hh.below.setCell (show w.heap.size<=g by omega) _).setCell (show w.heap.size<=g by omega) _,?_,?_,o2,by simpa using hh.hd⟩
          ·exact(hh.gbox.far (show w.heap.size≠g by omega) _).far (show w.heap.size≠g by omega) _
          ·exact(hh.nbox.far (show w.heap.size+1≠g by omega) _).far (show w.heap.size+1≠g by omega) _)
         have bl:Hid (L[j]=u):=hid hu;obtain⟨c7,bo⟩:=ex (Op.bytesLess t u)
         have M:Hid (ltS t u=c7):=hid (by rw[<-zld,bo]);have bF:=hid aw;clear hB aB aw X bO hu;cases c7 with
         |false=>
          have U:=hid (ak.out (fun _ i hi h=>by
           obtain rfl:i=j:=by omega
           rw[bl.out];exact M.out))
          clear J p hk10;go_upto_region 12 with fail;go_quiet (fail);go_wp2;go_roundw
          case rel=>exact⟨k+1,wand L t (j+1),some ⟨g,0,none⟩,c5,by omega,by go_num,by rw[<-R.out],hid ⟨U.out.1.drewN _,U.out.2⟩⟩
          case measure=>simp[intOf];omega
         |true=>
          have bR:Hid (∀y∈L.drop j,ltS t y=true):=hid (fun y hy=>by
           rw[List.drop_eq_getElem_cons ar,bl.out]at hy;rcases List.mem_cons.1 hy with rfl|hy
           ·exact M.out
           ·exact HJ.out.2.2 y hy)
          have bA:Hid (n.kind=10/\n.ord=false):=hid ⟨p,J⟩;clear J p hk10;go_upto_region 12 with fail;go_quiet (fail);go_upto_region 14 with fail;have aw:=bF.out;go_region
          all_goals
           go_wp2_with fail;exact⟨⟨j,by omega,rfl,hid ⟨bp.out _,fun h=>absurd bA.out h,bR.out⟩⟩,by simp[intOf]⟩
      ·have C:((r:Int)==10)=false:=by rw[beq_eq_false_iff_ne];omega
       have U:=hid (ak.out (fun h=>by have:=aa.out;omega));clear hk10;go_upto_region 12 with fail;go_quiet (fail);go_wp2;go_roundw
       case rel=>exact⟨k+1,wand L t j,some ⟨g,0,none⟩,c5,by omega,by go_num,by rw[<-R.out],hid ⟨U.out.1.drewN _,U.out.2⟩⟩
       case measure=>simp[intOf];omega
   ·have ba:¬(k:Int)<(n.items.length:Int):=by omega
    have ap:Hid (L=entS ns f n/\L.length<=1000):=hid ⟨by rw[G.out.2,zrh _ _ _ _ (by omega)],by omega⟩;have bv:L.length<=1000:=by omega
    clear aU;go_upto_region 16 with fail;go_loop [6,11] (fun s6 s11=>∃(i:Nat) (S:Gr.Str),i<=L.length/\s11=.int .i64 i/\s6=.string ⟨S.toArray⟩/\Hid (S=hd++(L.take i).flatten)) (fun _ s11=>L.length-(intOf s11).toNat)
    case atStart=>exact⟨0,hd,by omega,rfl,rfl,hid (by simp)⟩
    case round=>
     obtain⟨Q,S,hi2,rfl,rfl,HS⟩:=hrel;have bw:Hid (S.length+2<=b+2/\∀u,u∈L->S.length<=b/\Q<Q+1):=hid ⟨by
      have a:=aQ.out;rw[I.out,ag.out,<-ap.out.1]at a;have h2:=zfk L Q;rw[HS.out];simp only[List.length_append,List.length_cons]at a ⊢;omega,fun u _=>⟨by
      have a:=aQ.out;rw[I.out,ag.out,<-ap.out.1]at a;have h2:=zfk L Q;rw[HS.out];simp only[List.length_append,List.length_cons]at a ⊢;omega,by omega⟩⟩
     by_cases hli:Q<L.length
     ·have a5:(Q:Int)<(L.length:Int):=by omega
      obtain⟨u,hu⟩:=ex (L[Q])
      obtain⟨adl,rfl,_,l0⟩:=zuo (zlf G.out.1.own) hli;rw[hu]at l0;have aR:Hid (S++u=hd++(L.take (Q+1)).flatten):=hid (by rw[List.take_succ_eq_append_getElem hli,hu,HS.out];simp);have bC:S.length+u.length<=b:=by
       have a:=aQ.out;rw[I.out,ag.out,<-ap.out.1]at a;have h2:=zfk L (Q+1);have h3:=congrArg List.length aR.out;simp only[List.length_append,List.length_cons]at a h3;omega
      have rS:=zac S u (by omega);obtain⟨S2,D⟩:=ex (S++u)
      rw[D]at rS aR;have hib:Q<=1000:=by omega
      clear hu bC D;go_wp2;go_round
      case rel=>exact⟨Q+1,S2,by omega,by go_num,rfl,aR⟩
      case measure=>simp[intOf];omega
     ·have a5:¬(Q:Int)<(L.length:Int):=by omega
      have s2:m.cell? ⟨w.heap.size+1,2,none⟩=some (.bool n.ord):=by rw[G.out.1.nbox.cell];exact l.out.2.2.1
      have aX:Hid (printF ns (f+1) i=S++(41::(if n.ord=true then[33]else[]))):=hid (by rw[I.out,ag.out,<-ap.out.1,HS.out,List.take_of_length_le (by omega)]);have hSb:S.length<=b:=by have:=bw.out.1;omega
      have r1:=zac S [41] (by simp;omega);have r2:=zac S [41,33] (by simp;omega);obtain⟨S1,al⟩:=ex (S++[41])
      obtain⟨S2,D⟩:=ex (S++[41,33])
      rw[al]at r1;rw[D]at r2;have HB:=hid G.out.1.below;obtain⟨o,J⟩:=ex n.ord
      rw[J]at s2;cases o with
      |true=>
       have ax:Hid (printF ns (f+1) i=S2):=hid (by rw[aX.out,J,<-D];rfl);clear J al D;go_wp2;go_ret;exact⟨by rw[ax.out]<;>rfl,HB.out⟩
      |false=>
       have ax:Hid (printF ns (f+1) i=S1):=hid (by rw[aX.out,J,<-al];rfl);clear J al D;go_wp2;go_ret;exact⟨by rw[ax.out]<;>rfl,HB.out⟩
end Go.Proofs.YtoigpackhninoaaGreatDoor

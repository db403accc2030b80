import Derived.Test.YtpjmhafmeieloabGreatDoorGrRReach
import Derived.StillTailTactics
namespace Go.Proofs.YtpjmhafmeieloabGreatDoor
open Gr
open _root_.Go.Proofs.Tryz
open _root_.Go.Lib (hid)
set_option maxRecDepth 100000
set_option maxHeartbeats 16000000
open Go.RowKit
theorem zgc {w:World} {B:Nat} {A:Option Addr} {vs:List NV} {ns:List Gr.Nd} (h:GAt w B A vs ns) {j:Nat} {n:Gr.Nd} (hj:j<ns.length) (hn:ns[j]=n):∃ad ka kc ia ic,A=some ad/\w.cell? {block:=(ad.add (j*5)).block,off:=(ad.add (j*5)).off+3}=some (.slice ka n.keys.length kc)/\
 w.cell? {block:=(ad.add (j*5)).block,off:=(ad.add (j*5)).off+4}=some (.slice ia n.items.length ic)/\RowAt intL w B ka n.keys/\RowAt intL w B ia n.items:=by
 subst hn;obtain⟨ad,⟨ka,b,kc⟩,⟨ia,a,ic⟩,e,h⟩:=h.node hj;obtain rfl:b=ns[j].keys.length:=h.kn;obtain rfl:a=ns[j].items.length:=h.inn;exact⟨ad,ka,kc,ia,ic,e,h.c3,h.c4,h.keys,h.items⟩
structure CB (w wr:World) (gc:Array Value) (m:List Nat):Prop where
 below:Below w.heap.size w wr
 box:Blk wr w.heap.size 27 gc
 out:Blk wr (w.heap.size+1) 3 (icells m)
theorem CB.step {w wr:World} {gc:Array Value} {m:List Nat} (h:CB w wr gc m) (x:Nat):CB w (wr.setCell ⟨w.heap.size+1,x,none⟩ (.int .i64 ((m.getD x 0:Nat)+1))) gc (cstep m x):=
 ⟨h.below.setCell (by simp) _,h.box.far (by simp) _,by
  unfold cstep;rw[<-zav];exact h.out.set_ x _⟩
theorem zfl (A:Option Addr) (c root:Nat) (vs:List NV) (ns:List Gr.Nd) (hr:Refs ns) (hl:ns.length<=1000) (hks:∀n∈ns,n.keys.length<=1000/\n.items.length<=1000) (ha:root<ns.length)
 (w:World) (h:GAt w w.heap.size A vs ns):
 Calls prog 34 #[.agg #[.slice A ns.length c,.int .i64 root]] w fun e w'=>∃ob,e=.returned (.slice (some ⟨ob,0,none⟩) ns.length ns.length)/\w.heap.size<=ob/\Below w.heap.size w w'/\Blk w' ob 3 (icells (counts ns root)):=by
 have H:=hid h;have aa:=fun W=>zb1 ns.length (by omega) W
 have haI:(root:Int)<(ns.length:Int):=by omega
 have ai:Hid (∀j,(Gr.refs (ns.take j)).length<=2000*j):=hid (fun j=>by
  induction j with
  |zero=>simp[Gr.refs]
  |succ j ih=>
   by_cases hj:j<ns.length
   .rw[zdf ns j hj];have:=hks _ (List.getElem_mem hj);simp only[List.length_append];omega
   .rw[List.take_of_length_le (by omega)];rw[List.take_of_length_le (by omega)]at ih;omega)
 clear h;go_enter func34,ntmps34;go_upto_region 2 with fail;obtain⟨O,p⟩:=ex ((w.alloc (.cells #[.slice A ns.length c,.int .i64 root] 27)).alloc (.cells (icells (List.replicate ns.length 0)) 3))
 obtain⟨g,E⟩:∃g:Array Value,#[.slice A ns.length c,.int .i64 root]=g:=⟨_,rfl⟩
 have u:Hid (g[0]? =some (.slice A ns.length c)/\g[1]? =some (.int .i64 root)):=hid (by rw[<-E];exact⟨rfl,rfl⟩);have P:CB w O g (List.replicate ns.length 0):=by
  refine⟨by rw[<-p];exact((Below.refl _ _).alloc (Nat.le_refl _) _).alloc (by simp) _,by rw[<-p,<-E];exact(Blk.new _ _ _).alloc _,?_⟩;rw[<-p];have:=Blk.new (w.alloc (.cells #[.slice A ns.length c,.int .i64 root] 27)) 3 (icells (List.replicate ns.length 0));rw[World.size_alloc]at this;exact this
 have g1:O.cell? ⟨w.heap.size,1,none⟩=some (.int .i64 root):=by rw[P.box.cell];exact u.out.2
 have e0:(List.replicate ns.length 0).getD root 0=0:=by simp[List.getD_eq_getElem?_getD,ha]
 have z0:O.cell? ⟨w.heap.size+1,root,none⟩=some (.int .i64 0):=by
  rw[P.out.cell,zad (by simpa using ha),e0];rfl
 have zf:∀i,O.frozen? ⟨w.heap.size+1,i,none⟩=false:=P.out.frozen;have m:=P.step root;rw[e0]at m;obtain⟨f,B⟩:=ex (cstep (List.replicate ns.length 0) root)
 have q:Hid (f.length=ns.length/\(∀x,f.getD x 0<=1)/\counts ns root=(Gr.refs ns).foldl cstep f):=hid (by
  rw[<-B];refine⟨by rw[zb3];simp,fun x=>?_,rfl⟩;have:=zeg (List.replicate ns.length 0) root x;have e:(List.replicate ns.length 0).getD x 0=0:=by simp[List.getD_eq_getElem?_getD,List.getElem?_replicate];split<;>rfl
  omega)
 rw[B]at m;rw[p];clear p E P;go_upto_region 3 with fail;obtain⟨w3,D⟩:=ex (O.setCell ⟨w.heap.size+1,root,none⟩ (.int .i64 1))
 have m:Hid (CB w w3 g f):=hid (by rw[<-D];exact m);rw[D];clear D B g1 z0 zf e0 aa;go_upto_region 4 with fail;go_loopw [4] (fun s4 wr=>∃j:Nat,j<=ns.length/\s4=.int .i64 j/\Hid (CB w wr g ((Gr.refs (ns.take j)).foldl cstep f))) (fun s4 _=>ns.length-(intOf s4).toNat)
 case atStart=>exact⟨0,by omega,rfl,hid (by simpa[Gr.refs]using m.out)⟩
 case round=>
  obtain⟨j,hj,rfl,S⟩:=hrel;have Y:wr.cell? ⟨w.heap.size,0,none⟩=some (.slice A ns.length c):=by rw[S.out.box.cell];exact u.out.1
  by_cases hlt:j<ns.length
  .have M:(j:Int)<(ns.length:Int):=by omega
   have s:ns[j]∈ns:=List.getElem_mem hlt;obtain⟨n,K⟩:=ex (ns[j])
   have N:Hid (∀x∈n.keys++n.items,x<ns.length):=hid (by rw[<-K];exact hr _ s);have hkl:n.keys.length<=1000:=by rw[<-K];exact(hks _ s).1
   have hil:n.items.length<=1000:=by rw[<-K];exact(hks _ s).2
   obtain⟨R,V⟩:=ex (Gr.refs (ns.take j))
   have ac:Hid (Gr.refs (ns.take (j+1))=R++(n.keys++n.items)):=hid (by rw[zdf ns j hlt,V,K]);have Q:Hid (R.length<=2000000):=hid (by have:=ai.out j;rw[V]at this;omega);have y:Hid (∀W,CB w W g ((Gr.refs (ns.take j)).foldl cstep f)\/Below w.heap.size w W->∃ad ka kc ia ic,A=some ad/\W.cell? {block:=(ad.add (j*5)).block,off:=(ad.add (j*5)).off+3}=some (.slice ka n.keys.length kc)/\
    W.cell? {block:=(ad.add (j*5)).block,off:=(ad.add (j*5)).off+4}=some (.slice ia n.items.length ic)/\RowAt intL W w.heap.size ka n.keys/\RowAt intL W w.heap.size ia n.items):=hid (fun W hW=>zgc (H.out.below (hW.elim (fun x=>x.below) id)) hlt K)
   rw[V]at S y;obtain⟨ad,ka,kc,ia,ic,rfl,X,T,_,_⟩:=y.out wr (.inl S.out);clear s V K;go_upto_region 7 with fail;clear Y X T;go_loopw [5] (fun s5 wr=>∃k:Nat,k<=n.keys.length/\s5=.int .i64 k/\Hid (CB w wr g ((R++n.keys.take k).foldl cstep f))) (fun s5 _=>n.keys.length-(intOf s5).toNat)
   case atStart=>exact⟨0,by omega,rfl,hid (by rw[List.take_zero,List.append_nil];exact S.out)⟩
   case round=>
    obtain⟨k,hk,rfl,r⟩:=hrel;have Y:wr.cell? ⟨w.heap.size,0,none⟩=some (.slice (some ad) ns.length c):=by rw[r.out.box.cell];exact u.out.1
    obtain⟨af,ka,kc,ia,ic,C,X,T,J,L⟩:=y.out wr (.inr r.out.below);injection C with C
    subst C;by_cases hlk:k<n.keys.length
    .have o:(k:Int)<(n.keys.length:Int):=by omega
     obtain⟨x,t⟩:=ex (n.keys[k])
     obtain⟨ah,rfl,_,y0⟩:=zae J hlk;rw[t]at y0;have ae:x<ns.length:=N.out x (by simp[<-t]);have ag:(x:Int)<(ns.length:Int):=by omega
     obtain⟨l,a⟩:=ex ((R++n.keys.take k).foldl cstep f)
     have I:l.length=ns.length:=by rw[<-a,zbr,q.out.1]
     have z:l.getD x 0<=3000000:=by
      rw[<-a];have h1:=zde (R++n.keys.take k) f x;have h2:=q.out.2.1 x;have h3:=Q.out;simp only[List.length_append,List.length_take]at h1;omega
     have d:=r.out;rw[a]at d;have b:=d.step x;obtain⟨v,G⟩:=ex (l.getD x 0)
     have z0:wr.cell? ⟨w.heap.size+1,x,none⟩=some (.int .i64 (v:Int)):=by rw[d.out.cell,zad (by omega),G]
     have zf:∀i,wr.frozen? ⟨w.heap.size+1,i,none⟩=false:=d.out.frozen;rw[G]at z b;have F:Hid (CB w (wr.setCell ⟨w.heap.size+1,x,none⟩ (.int .i64 ((v:Int)+1))) g ((R++n.keys.take (k+1)).foldl cstep f)):=hid (by
      rw[zaj _ _ hlk,<-List.append_assoc,List.foldl_append,a,t];exact b)
     have Z:k<=1000:=by omega
     clear d b a I G t J L;go_wp2;go_roundw
     case rel=>exact⟨k+1,by omega,by go_num,F⟩
     case measure=>simp[intOf];omega
    .have o:¬(k:Int)<(n.keys.length:Int):=by omega
     have U:Hid (CB w wr g ((R++n.keys).foldl cstep f)):=hid (by have:=r.out;rwa[List.take_of_length_le (by omega)]at this);clear J L;go_upto_region 11 with fail;clear Y X T;go_loopw [6] (fun s6 wr=>∃k:Nat,k<=n.items.length/\s6=.int .i64 k/\Hid (CB w wr g (((R++n.keys)++n.items.take k).foldl cstep f))) (fun s6 _=>n.items.length-(intOf s6).toNat)
     case atStart=>exact⟨0,by omega,rfl,hid (by rw[List.take_zero,List.append_nil];exact U.out)⟩
     case round=>
      obtain⟨k,hk,rfl,r⟩:=hrel;have Y:wr.cell? ⟨w.heap.size,0,none⟩=some (.slice (some ad) ns.length c):=by rw[r.out.box.cell];exact u.out.1
      obtain⟨af,ka,kc,ia,ic,C,X,T,J,L⟩:=y.out wr (.inr r.out.below);injection C with C
      subst C;by_cases hlk:k<n.items.length
      .have o:(k:Int)<(n.items.length:Int):=by omega
       obtain⟨x,t⟩:=ex (n.items[k])
       obtain⟨ah,rfl,_,y0⟩:=zae L hlk;rw[t]at y0;have ae:x<ns.length:=N.out x (by simp[<-t]);have ag:(x:Int)<(ns.length:Int):=by omega
       obtain⟨l,a⟩:=ex (((R++n.keys)++n.items.take k).foldl cstep f)
       have I:l.length=ns.length:=by rw[<-a,zbr,q.out.1]
       have z:l.getD x 0<=3000000:=by
        rw[<-a];have h1:=zde ((R++n.keys)++n.items.take k) f x;have h2:=q.out.2.1 x;have h3:=Q.out;simp only[List.length_append,List.length_take]at h1;omega
       have d:=r.out;rw[a]at d;have b:=d.step x;obtain⟨v,G⟩:=ex (l.getD x 0)
       have z0:wr.cell? ⟨w.heap.size+1,x,none⟩=some (.int .i64 (v:Int)):=by rw[d.out.cell,zad (by omega),G]
       have zf:∀i,wr.frozen? ⟨w.heap.size+1,i,none⟩=false:=d.out.frozen;rw[G]at z b;have F:Hid (CB w (wr.setCell ⟨w.heap.size+1,x,none⟩ (.int .i64 ((v:Int)+1))) g (((R++n.keys)++n.items.take (k+1)).foldl cstep f)):=hid (by
        rw[zaj _ _ hlk,<-List.append_assoc,List.foldl_append,a,t];exact b)
       have Z:k<=1000:=by omega
       clear d b a I G t J L;go_wp2;go_roundw
       case rel=>exact⟨k+1,by omega,by go_num,F⟩
       case measure=>simp[intOf];omega
      .have o:¬(k:Int)<(n.items.length:Int):=by omega
       have ab:Hid (CB w wr g (((R++n.keys)++n.items).foldl cstep f)):=hid (by have:=r.out;rwa[List.take_of_length_le (by omega)]at this);clear J L;have HF:Hid (CB w wr g ((Gr.refs (ns.take (j+1))).foldl cstep f)):=hid (by rw[ac.out,<-List.append_assoc];exact ab.out);go_wp2;go_roundw
       case rel=>exact⟨j+1,by omega,by go_num,HF⟩
       case measure=>simp[intOf];omega
  .have M:¬(j:Int)<(ns.length:Int):=by omega
   have U:Hid (CB w wr g (counts ns root)):=hid (by rw[q.out.2.2];have:=S.out;rwa[List.take_of_length_le (by omega)]at this);go_wp2;go_ret;exact⟨w.heap.size+1,rfl,by omega,U.out.below,U.out.out⟩
structure MB (w wr:World) (gc:Array Value) (m:List Bool):Prop where
 below:Below w.heap.size w wr
 box:Blk wr w.heap.size 27 gc
 out:Blk wr (w.heap.size+1) 4 (bcells m)
 hd:w.heap.size+2<=wr.heap.size
theorem MB.later {w wr w2:World} {gc:Array Value} {m:List Bool} (h:MB w wr gc m) (hb:Below wr.heap.size wr w2):MB w w2 gc m:=
 ⟨h.below.trans (hb.mono h.below.size),h.box.below hb h.box.lt,h.out.below hb h.out.lt,Nat.le_trans h.hd hb.size⟩
theorem MB.set {w wr:World} {gc:Array Value} {m:List Bool} (h:MB w wr gc m) (x:Nat) (b:Bool):MB w (wr.setCell ⟨w.heap.size+1,x,none⟩ (.bool b)) gc (m.set x b):=
 ⟨h.below.setCell (by simp) _,h.box.far (by simp) _,by rw[<-zb0];exact h.out.set_ x _,by have:=h.hd;simpa[World.setCell]using this⟩
def OrTo (o m acc:List Bool) (j:Nat):Prop:=acc.length=o.length/\∀x,mkd acc x=if x<j then(mkd o x || mkd m x)else mkd o x
theorem OrTo.step {o m acc:List Bool} {j:Nat} (h:OrTo o m acc j) (hj:j<o.length):OrTo o m (acc.set j (mkd o j || mkd m j)) (j+1):=by
 refine⟨by simp[h.1],fun x=>?_⟩;have a:mkd (acc.set j (mkd o j || mkd m j)) x=if x=j then(mkd o j || mkd m j)else mkd acc x:=by
  unfold mkd;simp only[List.getD_eq_getElem?_getD,List.getElem?_set];by_cases e:j=x
  .subst e;simp[h.1,hj]
  .rw[if_neg e,if_neg (fun k=>e k.symm)]
 rw[a,h.2];by_cases e:x=j
 .subst e;rw[if_pos rfl,if_pos (by omega)]
 .rw[if_neg e];by_cases e2:x<j
  .rw[if_pos e2,if_pos (by omega)]
  .rw[if_neg e2,if_neg (by omega)]
theorem OrTo.last {o m acc:List Bool} {j:Nat} (h:OrTo o m acc j) (hm:o.length=m.length) (hj:o.length<=j):acc=Gr.orM o m:=by
 refine zq0 (by rw[h.1,zq1 hm]) (fun x=>?_);rw[h.2,zuy hm];by_cases e:x<j
 .rw[if_pos e]
 .rw[if_neg e];have:mkd m x=false:=by unfold mkd;rw[List.getD_eq_getElem?_getD,List.getElem?_eq_none (by omega)];rfl
  rw[this,Bool.or_false]
theorem zkb (A:Option Addr) (c:Nat) (root:Int) (vs:List NV) (ns:List Gr.Nd) (hr:Refs ns) (hl:ns.length<=1000) (hks:∀n∈ns,n.keys.length<=1000/\n.items.length<=1000)
 (w:World) (h:GAt w w.heap.size A vs ns):
 Calls prog 48 #[.agg #[.slice A ns.length c,.int .i64 root]] w fun e w'=>∃ob,e=.returned (.slice (some ⟨ob,0,none⟩) ns.length ns.length)/\w.heap.size<=ob/\Below w.heap.size w w'/\Blk w' ob 4 (bcells (inKeys ns)):=by
 have H:=hid h;have ab:=fun W=>zb2 ns.length (by omega) W
 have ag:Hid (∀k∈allKeys ns,k<ns.length):=hid (zjd hr);have ac:Hid (∀k,k<ns.length->(marks ns k).length=ns.length):=hid (fun k hk=>zbe hr hk);have r:Hid ((allKeys ns).foldl (fun o k=>Gr.orM o (marks ns k)) (List.replicate ns.length false)=inKeys ns):=hid (zj7 hr);have J:Hid (∀L:List Nat,(∀x∈L,x<ns.length)->(L.foldl (fun o k=>Gr.orM o (marks ns k)) (List.replicate ns.length false)).length=ns.length):=hid (fun L hL=>(zi1 hr L (List.replicate ns.length false) hL (by simp)).1);clear h;go_enter func48,ntmps48;go_upto_region 2 with fail;obtain⟨w2,f⟩:=ex ((w.alloc (.cells #[.slice A ns.length c,.int .i64 root] 27)).alloc (.cells (bcells (List.replicate ns.length false)) 4))
 obtain⟨a,t⟩:∃a:Array Value,#[.slice A ns.length c,.int .i64 root]=a:=⟨_,rfl⟩
 have B:Hid (a[0]? =some (.slice A ns.length c)/\a[1]? =some (.int .i64 root)):=hid (by rw[<-t];exact⟨rfl,rfl⟩);obtain⟨u,s⟩:=ex (List.replicate ns.length false)
 have aa:Hid (MB w w2 a u):=hid (by
  refine⟨by rw[<-f];exact((Below.refl _ _).alloc (Nat.le_refl _) _).alloc (by simp) _,by rw[<-f,<-t];exact(Blk.new _ _ _).alloc _,?_,by rw[<-f];simp⟩;rw[<-f,<-s];have:=Blk.new (w.alloc (.cells #[.slice A ns.length c,.int .i64 root] 27)) 4 (bcells (List.replicate ns.length false));rw[World.size_alloc]at this;exact this)
 rw[s]at r J;rw[f];clear f t ab s;go_upto_region 3 with fail;go_loopw [4] (fun s4 wr=>∃j:Nat,j<=ns.length/\s4=.int .i64 j/\Hid (MB w wr a ((allKeys (ns.take j)).foldl (fun o k=>Gr.orM o (marks ns k)) u))) (fun s4 _=>ns.length-(intOf s4).toNat)
 case atStart=>exact⟨0,by omega,rfl,hid (by simpa[allKeys]using aa.out)⟩
 case round=>
  obtain⟨j,hj,rfl,X⟩:=hrel;have g0:wr.cell? ⟨w.heap.size,0,none⟩=some (.slice A ns.length c):=by rw[X.out.box.cell];exact B.out.1
  by_cases hlt:j<ns.length
  .have F:(j:Int)<(ns.length:Int):=by omega
   have I:ns[j]∈ns:=List.getElem_mem hlt;obtain⟨n,hn⟩:=ex (ns[j])
   have hkl:n.keys.length<=1000:=by rw[<-hn];exact(hks _ I).1
   obtain⟨K,hK⟩:=ex (allKeys (ns.take j))
   have E:Hid (allKeys (ns.take (j+1))=K++n.keys):=hid (by rw[zhn ns j hlt,hK,hn]);have P:Hid (∀x∈K++n.keys,x<ns.length):=hid (fun x D=>ag.out x (zkj ns (j+1) x (by rw[E.out];exact D)));have V:Hid (∀W,Below w.heap.size w W->∃ad ka kc ia ic,A=some ad/\W.cell? {block:=(ad.add (j*5)).block,off:=(ad.add (j*5)).off+3}=some (.slice ka n.keys.length kc)/\
    W.cell? {block:=(ad.add (j*5)).block,off:=(ad.add (j*5)).off+4}=some (.slice ia n.items.length ic)/\RowAt intL W w.heap.size ka n.keys/\RowAt intL W w.heap.size ia n.items):=hid (fun W hW=>zgc (H.out.below hW) hlt hn)
   rw[hK]at X;obtain⟨ad,ka,kc,ia,ic,rfl,x3,Z,_,_⟩:=V.out wr X.out.below;clear I hK hn;go_upto_region 6 with fail;clear g0 x3 Z;go_loopw [5] (fun s5 wr=>∃k:Nat,k<=n.keys.length/\s5=.int .i64 k/\Hid (MB w wr a ((K++n.keys.take k).foldl (fun o k=>Gr.orM o (marks ns k)) u))) (fun s5 _=>n.keys.length-(intOf s5).toNat)
   case atStart=>exact⟨0,by omega,rfl,hid (by rw[List.take_zero,List.append_nil];exact X.out)⟩
   case round=>
    obtain⟨k,hk,rfl,l⟩:=hrel;have g0:wr.cell? ⟨w.heap.size,0,none⟩=some (.slice (some ad) ns.length c):=by rw[l.out.box.cell];exact B.out.1
    have g1:wr.cell? ⟨w.heap.size,1,none⟩=some (.int .i64 root):=by rw[l.out.box.cell];exact B.out.2
    obtain⟨ad1,ka,kc,ia,ic,he,x3,Z,HK,_⟩:=V.out wr l.out.below;injection he with he
    subst he;by_cases hlk:k<n.keys.length
    .have S:(k:Int)<(n.keys.length:Int):=by omega
     obtain⟨x,D⟩:=ex (n.keys[k])
     obtain⟨ad2,rfl,_,y0⟩:=zae HK hlk;rw[D]at y0;have Q:x<ns.length:=P.out x (by simp[<-D]);obtain⟨o,ho⟩:∃o,(K++n.keys.take k).foldl (fun o k=>Gr.orM o (marks ns k)) u=o:=⟨_,rfl⟩
     have m:Hid (o.length=ns.length):=hid (by rw[<-ho];exact J.out _ (fun y hy=>P.out y (by
      rcases List.mem_append.1 hy with hy|hy
      .exact List.mem_append_left _ hy
      .exact List.mem_append_right _ (List.mem_of_mem_take hy))))
     have G:Hid ((K++n.keys.take (k+1)).foldl (fun o k=>Gr.orM o (marks ns k)) u=Gr.orM o (marks ns x)):=hid (by rw[zaj _ _ hlk,<-List.append_assoc,List.foldl_append,ho,D];rfl);rw[ho]at l;have HC:Hid (∀d,Calls prog 47 #[.agg #[.slice (some ad) ns.length c,.int .i64 root],.int .i64 x] (wr.drewN d) fun e w'=>∃ob,e=.returned (.slice (some ⟨ob,0,none⟩) ns.length ns.length)/\wr.heap.size<=ob/\Below wr.heap.size wr w'/\Blk w' ob 4 (bcells (marks ns x))):=hid (fun d=>
      (zd3 (some ad) c x root vs ns hr hl hks Q (wr.drewN d) (((H.out.below (l.out.below)).more l.out.below.size).below (below_drewN (Below.refl _ _) d))).mono (fun e w' ⟨ob,h1,h2,h3,h4⟩=>⟨ob,h1,h2,(below_drewN (Below.refl _ _) d).trans h3,h4⟩))
     have hkb:k<=1000:=by omega
     clear D ho HK Z;go_upto_region 8 with fail;go_still_tail 10,(by kernel_rfl)
     change wpList _ _ _ _ _ wr.drew;go_wp2_with fail;refine(HC.out 1).mono ?_;rintro e w8 ⟨O,rfl,ae,Y,T⟩;have ah:Hid (MB w w8 a o):=hid (l.out.later Y);have v:Hid (Blk w8 O 4 (bcells (marks ns x))/\w.heap.size+1<O):=hid ⟨T,by have:=l.out.hd;omega⟩;have z:=hid (ac.out x Q);obtain⟨U,M⟩:=ex (marks ns x)
     rw[M]at v G z;clear ae Y T g0 g1 x3 y0 M;go_upto_region 10 with fail;go_loopw [7] (fun s7 wr=>∃(i:Nat) (acc:List Bool),i<=ns.length/\s7=.int .i64 i/\Hid (MB w wr a acc/\OrTo o U acc i/\Blk wr O 4 (bcells U))) (fun s7 _=>ns.length-(intOf s7).toNat)
     case atStart=>exact⟨0,o,by omega,rfl,hid ⟨ah.out,⟨rfl,fun x=>by simp⟩,v.out.1⟩⟩
     case round=>
      obtain⟨i,acc,hi,rfl,g⟩:=hrel;by_cases hli:i<ns.length
      .have R:(i:Int)<(ns.length:Int):=by omega
       have af:=g.out.2.1.1;have C:=g.out.2.1.2 i;rw[if_neg (Nat.lt_irrefl i)]at C;obtain⟨p,hp⟩:=ex (mkd o i)
       obtain⟨q,hq⟩:=ex (mkd U i)
       have z0:wr.cell? ⟨w.heap.size+1,i,none⟩=some (.bool p):=by
        rw[g.out.1.out.cell,zah (by have:=m.out;omega),<-hp,<-C];rfl
       have q0:wr.cell? ⟨O,i,none⟩=some (.bool q):=by
        rw[g.out.2.2.cell,zah (by have:=z.out;omega),<-hq];rfl
       have zf:∀i,wr.frozen? ⟨w.heap.size+1,i,none⟩=false:=g.out.1.out.frozen;have N:Hid (∀b,b=(p || q)->MB w (wr.setCell ⟨w.heap.size+1,i,none⟩ (.bool b)) a (acc.set i b)/\OrTo o U (acc.set i b) (i+1)/\Blk (wr.setCell ⟨w.heap.size+1,i,none⟩ (.bool b)) O 4 (bcells U)):=hid (fun b hb=>by
        subst hb;refine⟨g.out.1.set _ _,?_,g.out.2.2.far (by have:=v.out.2;simp;omega) _⟩;have:=g.out.2.1.step (by have:=m.out;omega);rwa[hp,hq]at this)
       have hib:i<=1000:=by omega
       clear af C hp hq;cases p with
       |true=>
        go_wp2;go_roundw
        case rel=>exact⟨i+1,acc.set i true,by omega,by go_num,hid (N.out true rfl)⟩
        case measure=>simp[intOf];omega
       |false=>
        have HQ:Hid (q=(false || q)):=hid (by cases q<;>rfl);go_wp2;go_roundw
        case rel=>exact⟨i+1,acc.set i q,by omega,by go_num,hid (N.out q HQ.out)⟩
        case measure=>simp[intOf];omega
      .have R:¬(i:Int)<(ns.length:Int):=by omega
       have HF:Hid (MB w wr a ((K++n.keys.take (k+1)).foldl (fun o k=>Gr.orM o (marks ns k)) u)):=hid (by
        rw[G.out,<-g.out.2.1.last (by rw[m.out,z.out]) (by rw[m.out];omega)];exact g.out.1)
       go_wp2;go_roundw
       case rel=>exact⟨k+1,by omega,by go_num,HF⟩
       case measure=>simp[intOf];omega
    .have S:¬(k:Int)<(n.keys.length:Int):=by omega
     have HF:Hid (MB w wr a ((allKeys (ns.take (j+1))).foldl (fun o k=>Gr.orM o (marks ns k)) u)):=hid (by rw[E.out];have:=l.out;rwa[List.take_of_length_le (by omega)]at this);clear HK Z g1;go_wp2;go_roundw
     case rel=>exact⟨j+1,by omega,by go_num,HF⟩
     case measure=>simp[intOf];omega
  .have F:¬(j:Int)<(ns.length:Int):=by omega
   have HE:Hid (MB w wr a (inKeys ns)):=hid (by rw[<-r.out];have:=X.out;rwa[List.take_of_length_le (by omega)]at this);go_wp2;go_ret;exact⟨w.heap.size+1,rfl,by omega,HE.out.below,HE.out.out⟩
theorem zrr (p:Nat->Bool) (i:Nat):(List.range (i+1)).all p=((List.range i).all p && p i):=by
 rw[List.range_succ,List.all_append];simp
theorem zi6 {p:Nat->Bool} {i n:Nat} (h:i<n) (hp:p i=false):(List.range n).all p=false:=by
 rw[List.all_eq_false];exact⟨i,List.mem_range.2 h,by rw[hp];decide⟩
theorem zrs (A:Option Addr) (c:Nat) (root:Int) (vs:List NV) (is:List Gr.Ni) (hl:is.length<=1000) (hks:∀n∈is,n.keys.length<=1000/\n.items.length<=1000/\n.text.length<=268435455)
 (w:World) (h:IAt w w.heap.size A vs is):
 Calls prog 31 #[.agg #[.slice A is.length c,.int .i64 root]] w fun e w'=>e=.returned (.bool (rwell sclX is root))/\Below w.heap.size w w':=by
 have H:=hid h;obtain⟨N,t⟩:=ex (w.alloc (.cells #[.slice A is.length c,.int .i64 root] 27))
 have b1:Blk N w.heap.size 27 #[.slice A is.length c,.int .i64 root]:=by rw[<-t];exact Blk.new _ _ _
 have S:Hid (Below w.heap.size w N):=hid (by rw[<-t];exact(Below.refl _ _).alloc (Nat.le_refl _) _);obtain⟨g0,g1⟩:=cells2 b1;have aj:=hid b1;have u:Hid ((is.length=0\/inR is.length root=false)->rwell sclX is root=false):=hid (fun h=>by unfold rwell;rw[if_pos h]);clear h b1;go_enter func31,ntmps31;go_upto_region 1 with fail;(try rw[t]);clear t;by_cases h0:is.length=0
 .have an:((is.length:Int)==0)=true:=by rw[h0];rfl
  have k:Hid (rwell sclX is root=false):=hid (u.out (.inl h0));have H0:=hid h0;clear h0;go_wp2;go_ret;exact⟨by rw[k.out]<;>rfl,S.out⟩
 .have an:((is.length:Int)==0)=false:=by rw[beq_eq_false_iff_ne];omega
  by_cases h1:0<=root
  .have ap:¬root<0:=by omega
   by_cases h2:root<(is.length:Int)
   .have av:¬(is.length:Int)<=root:=by omega
    obtain⟨r,rfl⟩:∃r:Nat,root=(r:Int):=⟨root.toNat,by omega⟩
    have hrn:r<is.length:=by omega
    have Y:Hid (rwell sclX is (r:Int)=if is.all (rform sclX is.length)=false then false else(List.range is.length).all (rnode (is.map Gr.Ni.nd) r)):=hid (by
     unfold rwell;rw[if_neg,Int.toNat_natCast];rintro(h|h)
     .exact h0 h
     .unfold inR at h;rw[decide_eq_true h1,decide_eq_true h2]at h;cases h)
    clear u;go_upto_region 5 with fail;clear g0 g1;go_loopw [4] (fun s4 wr=>∃j:Nat,j<=is.length/\s4=.int .i64 j/\Hid (Below N.heap.size N wr/\(is.take j).all (rform sclX is.length)=true)) (fun s4 _=>is.length-(intOf s4).toNat)
    case atStart=>exact⟨0,by omega,rfl,hid ⟨Below.refl _ _,by simp⟩⟩
    case round=>
     obtain⟨j,hj,rfl,O⟩:=hrel;have d:Hid (Below w.heap.size w wr):=hid (S.out.trans (O.out.1.mono S.out.size));have L:Hid (Blk wr w.heap.size 27 #[.slice A is.length c,.int .i64 r]):=hid (aj.out.below O.out.1 aj.out.lt);by_cases hlt:j<is.length
     .have Q:(j:Int)<(is.length:Int):=by omega
      have g0:wr.cell? ⟨w.heap.size,0,none⟩=some (.slice A is.length c):=L.out.cell 0;have D:is[j]∈is:=List.getElem_mem hlt;obtain⟨ak,aw,ae⟩:=hks _ D;obtain⟨ad,ks,ao,rfl,ag,c0,c1,c2,c3,c4,r1,r2,r3,r4⟩:=(H.out.below d.out).node hlt;obtain⟨ka,kn,kc⟩:=ks;obtain⟨ia,am,ic⟩:=ao;have C:Hid ((is.take (j+1)).all (rform sclX is.length)=rform sclX is.length is[j]):=hid (by rw[zb5 _ _ _ hlt,O.out.2,Bool.true_and]);have K:Hid (rform sclX is.length is[j]=false->is.all (rform sclX is.length)=false):=hid (fun h=>by rw[List.all_eq_false];exact⟨_,D,by rw[h];decide⟩);obtain⟨n,hn⟩:=ex (is[j])
      rw[hn]at c0 c1 c2 r1 r2 r3 r4 ak aw ae C K;obtain rfl:kn=n.keys.length:=r2;obtain rfl:am=n.items.length:=r4;have HC:=hid (zqz n.kind n.text n.ord n.keys n.items ka ia kc ic is.length w.heap.size (by omega) ae (by omega) (by omega) wr d.out.size r1 r3);obtain⟨b,hb⟩:=ex (rform sclX is.length n)
      have ac:rform sclX is.length ⟨n.kind,n.text,n.ord,n.keys,n.items⟩=b:=hb;rw[ac]at HC;rw[hb]at C K;have hjb:j<=1000:=by omega
      clear hb ac hn D r1 r3 ag;cases b with
      |false=>
       have k:Hid (rwell sclX is (r:Int)=false):=hid (by rw[Y.out,if_pos (K.out rfl)]);go_wp2_with fail;refine HC.out.mono ?_;rintro e w2 ⟨rfl,o⟩;go_wp2;go_ret;exact⟨by rw[k.out]<;>rfl,d.out.trans (o.mono d.out.size)⟩
      |true=>
       go_wp2_with fail;refine HC.out.mono ?_;rintro e w2 ⟨rfl,o⟩;have HN:Hid (Below N.heap.size N w2/\(is.take (j+1)).all (rform sclX is.length)=true):=hid ⟨O.out.1.trans (o.mono O.out.1.size),C.out⟩;clear o;go_wp2;go_roundw
       case rel=>exact⟨j+1,by omega,by go_num,HN⟩
       case measure=>simp[intOf];omega
     .have Q:¬(j:Int)<(is.length:Int):=by omega
      have U:Hid (is.all (rform sclX is.length)=true):=hid (by have:=O.out.2;rwa[List.take_of_length_le (by omega)]at this);have V:Hid (is.all (rng is.length)=true):=hid (List.all_eq_true.2 (fun x hx=>zfi (List.all_eq_true.1 U.out x hx)));have l:Hid (Refs (is.map Gr.Ni.nd)):=hid (zbl V.out).2;have E:Hid (rwell sclX is (r:Int)=(List.range is.length).all (rnode (is.map Gr.Ni.nd) r)):=hid (by rw[Y.out,U.out];rfl);obtain⟨a,m⟩:=ex (is.map Gr.Ni.nd)
      have g:a.length=is.length:=by rw[<-m];simp
      have s:Hid (∀n∈a,n.keys.length<=1000/\n.items.length<=1000):=hid (by
       rw[<-m];intro n hn;obtain⟨x,hx,rfl⟩:=List.mem_map.1 hn;have:=hks x hx;simp only[Gr.Ni.nd,List.length_map];omega)
      have G:Hid (∀W,Below w.heap.size w W->GAt W W.heap.size A vs a):=hid (fun W f=>by
       rw[<-m];exact((H.out.below f).more f.size).toG (zbl V.out).1)
      rw[m]at l E;clear m;have HS:Hid (∀W,Below wr.heap.size wr W->W.cell? ⟨w.heap.size,0,none⟩=some (.slice A is.length c)/\W.cell? ⟨w.heap.size,1,none⟩=some (.int .i64 r)):=hid (fun W f=>by
       have:=L.out.below f L.out.lt;exact⟨this.cell 0,this.cell 1⟩)
      have ai:Hid (∀W,Below wr.heap.size wr W->Calls prog 47 #[.agg #[.slice A is.length c,.int .i64 r],.int .i64 r] W fun e w'=>Below wr.heap.size wr w'/\∃ob,e=.returned (.slice (some ⟨ob,0,none⟩) is.length is.length)/\Blk w' ob 4 (bcells (marks a r))):=hid (fun W f=>by
       rw[<-g];refine(zd3 A c r (r:Int) vs a l.out (by omega) s.out (by omega) W (G.out W (d.out.trans (f.mono d.out.size)))).mono ?_;rintro e w' ⟨ob,h1,h2,B,M⟩;exact⟨f.trans (B.mono f.size),ob,h1,M⟩)
      have P:Hid (∀W,Below wr.heap.size wr W->Calls prog 34 #[.agg #[.slice A is.length c,.int .i64 r]] W fun e w'=>Below wr.heap.size wr w'/\Below W.heap.size W w'/\∃ob,e=.returned (.slice (some ⟨ob,0,none⟩) is.length is.length)/\Blk w' ob 3 (icells (counts a r))):=hid (fun W f=>by
       rw[<-g];refine(zfl A c r vs a l.out (by omega) s.out (by omega) W (G.out W (d.out.trans (f.mono d.out.size)))).mono ?_;rintro e w' ⟨ob,h1,h2,B,M⟩;exact⟨f.trans (B.mono f.size),B,ob,h1,M⟩)
      have R:Hid (∀W,Below wr.heap.size wr W->Calls prog 48 #[.agg #[.slice A is.length c,.int .i64 r]] W fun e w'=>Below wr.heap.size wr w'/\Below W.heap.size W w'/\∃ob,e=.returned (.slice (some ⟨ob,0,none⟩) is.length is.length)/\Blk w' ob 4 (bcells (inKeys a))):=hid (fun W f=>by
       rw[<-g];refine(zkb A c (r:Int) vs a l.out (by omega) s.out W (G.out W (d.out.trans (f.mono d.out.size)))).mono ?_;rintro e w' ⟨ob,h1,h2,B,M⟩;exact⟨f.trans (B.mono f.size),B,ob,h1,M⟩)
      obtain⟨q0,q1⟩:=HS.out wr (Below.refl _ _);go_upto_region 9 with fail;go_cut [5,6,7] (fun s5 s6 s7 wx=>∃o1 o2 o3,s5=.slice (some ⟨o1,0,none⟩) is.length is.length/\s6=.slice (some ⟨o2,0,none⟩) is.length is.length/\s7=.slice (some ⟨o3,0,none⟩) is.length is.length/\Hid (Blk wx o1 4 (bcells (marks a r))/\Blk wx o2 3 (icells (counts a r))/\Blk wx o3 4 (bcells (inKeys a))/\Below wr.heap.size wr wx))
      case first=>
       go_region_held3 (fun w'=>w'.cell? ⟨w.heap.size,0,none⟩=some (.slice A is.length c)/\w'.cell? ⟨w.heap.size,1,none⟩=some (.int .i64 r))
        (first|go_keep|exact HS.out _ (by(first|assumption|exact Below.refl _ _|exact(Below.refl _ _).drew|exact Below.drew (by assumption)))) (first
        | (go_at_call 47;(with_reducible refine(ai.out _ ?_).mono ?_);(first|assumption|exact Below.refl _ _|exact(Below.refl _ _).drew|exact Below.drew (by assumption));rintro e1 wc1 ⟨hb1,o1,rfl,aa⟩)
        | (go_at_call 34;(with_reducible refine(P.out _ ?_).mono ?_);(first|assumption|exact Below.refl _ _|exact(Below.refl _ _).drew|exact Below.drew (by assumption));rintro e2 wc2 ⟨o,al,o2,rfl,T⟩)
        | (go_at_call 48;(with_reducible refine(R.out _ ?_).mono ?_);(first|assumption|exact Below.refl _ _|exact(Below.refl _ _).drew|exact Below.drew (by assumption));rintro e3 wc3 ⟨aq,ab,o3,rfl,au⟩))
       all_goals
        go_wp2;go_meet
       have z:=aa.below al aa.lt;exact⟨o1,o2,o3,rfl,rfl,rfl,hid ⟨z.below ab z.lt,T.below ab T.lt,au,aq⟩⟩
      case rest=>
       obtain⟨o1,o2,o3,rfl,rfl,rfl,HO⟩:=hcut;have I:Hid (Below w.heap.size w wc):=hid (d.out.trans (HO.out.2.2.2.mono d.out.size));have F:Hid ((marks a r).length=is.length/\(counts a r).length=is.length/\(inKeys a).length=is.length):=hid ⟨by rw[zbe l.out (by omega),g],by
        unfold counts;rw[zbr,zb3,List.length_replicate,g],by rw[zgb l.out,g]⟩
       have ar:Hid (∀i,(counts a r).getD i 0<=4000000):=hid (fun i=>by
        have h1:∀j,(Gr.refs (a.take j)).length<=2000*j:=fun j=>by
         induction j with
         |zero=>simp[Gr.refs]
         |succ j ih=>
          by_cases hj:j<a.length
          .rw[zdf a j hj];have:=s.out _ (List.getElem_mem hj);simp only[List.length_append];omega
          .rw[List.take_of_length_le (by omega)];rw[List.take_of_length_le (by omega)]at ih;omega
        have h2:=h1 a.length;rw[List.take_length]at h2;unfold counts;have B:=zde (Gr.refs a) (cstep (List.replicate a.length 0) r) i;have M:=zeg (List.replicate a.length 0) r i;have h5:(List.replicate a.length 0).getD i 0=0:=by simp[List.getD_eq_getElem?_getD,List.getElem?_replicate];split<;>rfl
        omega)
       clear q0 q1 g ai P R HS;go_upto_region 11 with fail;go_loop [8] (fun s8=>∃i:Nat,i<=is.length/\s8=.int .i64 i/\Hid ((List.range i).all (rnode a r)=true)) (fun s8=>is.length-(intOf s8).toNat)
       case atStart=>exact⟨0,by omega,rfl,hid rfl⟩
       case round=>
        obtain⟨i,hi,rfl,HI⟩:=hrel;by_cases hli:i<is.length
        .have af:(i:Int)<(is.length:Int):=by omega
         obtain⟨p,hp⟩:=ex ((marks a r).getD i false)
         obtain⟨q,hq⟩:=ex ((inKeys a).getD i false)
         obtain⟨v,hv⟩:=ex ((counts a r).getD i 0)
         have hvb:v<=4000000:=by rw[<-hv];exact ar.out i
         have z1:wc.cell? ⟨o1,i,none⟩=some (.bool p):=by rw[HO.out.1.cell,zah (by have:=F.out;omega),hp]
         have z2:wc.cell? ⟨o2,i,none⟩=some (.int .i64 (v:Int)):=by rw[HO.out.2.1.cell,zad (by have:=F.out;omega),hv]
         have z3:wc.cell? ⟨o3,i,none⟩=some (.bool q):=by rw[HO.out.2.2.1.cell,zah (by have:=F.out;omega),hq]
         have y:Hid (rnode a r i=(p && !(q && v != 1))):=hid (by unfold rnode mkd;rw[hp,hq,hv]);have ah:Hid (rnode a r i=true->(List.range (i+1)).all (rnode a r)=true):=hid (fun h=>by rw[zrr,HI.out,h];rfl);have Z:Hid (rnode a r i=false->rwell sclX is (r:Int)=false):=hid (fun h=>by rw[E.out];exact zi6 hli h);have hib:i<=1000:=by omega
         clear hp hq hv;cases p with
         |false=>
          have k:Hid (rwell sclX is (r:Int)=false):=hid (Z.out (by rw[y.out];rfl));go_wp2;go_ret;exact⟨by rw[k.out]<;>rfl,I.out⟩
         |true=>
          cases q with
          |false=>
           have J:Hid ((List.range (i+1)).all (rnode a r)=true):=hid (ah.out (by rw[y.out];rfl));go_wp2;go_round
           case rel=>exact⟨i+1,by omega,by go_num,J⟩
           case measure=>simp[intOf];omega
          |true=>
           by_cases hv1:v=1
           .subst hv1;have J:Hid ((List.range (i+1)).all (rnode a r)=true):=hid (ah.out (by rw[y.out];rfl));go_wp2;go_round
            case rel=>exact⟨i+1,by omega,by go_num,J⟩
            case measure=>simp[intOf];omega
           .have k:Hid (rwell sclX is (r:Int)=false):=hid (Z.out (by
             rw[y.out];have:(v != 1)=true:=by simpa using hv1
             rw[this];rfl))
            have X:¬(v:Int)=1:=by omega
            have hvb2:((v:Int)==1)=false:=by rw[beq_eq_false_iff_ne];exact X
            have hvn:((v:Int) != 1)=true:=by rw[bne_iff_ne];exact X
            go_wp2;go_ret;exact⟨by rw[k.out]<;>rfl,I.out⟩
        .have af:¬(i:Int)<(is.length:Int):=by omega
         have k:Hid (rwell sclX is (r:Int)=true):=hid (by rw[E.out];have:=HI.out;rwa[show i=is.length from by omega]at this);go_wp2;go_ret;exact⟨by rw[k.out]<;>rfl,I.out⟩
   .have av:(is.length:Int)<=root:=by omega
    have k:Hid (rwell sclX is root=false):=hid (u.out (.inr (by unfold inR;rw[decide_eq_false h2,Bool.and_false])));go_wp2;go_ret;exact⟨by rw[k.out]<;>rfl,S.out⟩
  .have ap:root<0:=by omega
   have k:Hid (rwell sclX is root=false):=hid (u.out (.inr (by unfold inR;rw[decide_eq_false h1,Bool.false_and])));go_wp2;go_ret;exact⟨by rw[k.out]<;>rfl,S.out⟩
theorem zrt (d:Nat) (h:d<10) (i:Int) (hi:i=d) (k:Int) (hk:k=d+1) (W:World):(Instr.slice 9 (.string ⟨#[48,49,50,51,52,53,54,55,56,57]⟩) (some (.int .i64 i)) (some (.int .i64 k)) none).run prog W=.ok (.string ⟨(Lib.decDigits d).toArray⟩) W:=by
 rw[Lib.decDigits_one h];subst hi;subst hk;obtain rfl|rfl|rfl|rfl|rfl|rfl|rfl|rfl|rfl|rfl:d=0\/d=1\/d=2\/d=3\/d=4\/d=5\/d=6\/d=7\/d=8\/d=9:=by omega
 all_goals kernel_rfl
theorem zt4 {n:Nat} (h:¬n<10):Lib.decDigits n=Lib.decDigits (n /10)++Lib.decDigits (n%10):=by
 rw[Lib.decDigits_one (Nat.mod_lt _ (by omega)),Lib.decDigits.eq_1 n,dif_neg h]
theorem zi7:∀(f n:Nat),n<f->n<=999999999->∀w:World,Calls prog 64 #[.int .i64 n] w fun e w'=>e=.returned (.string ⟨(Lib.decDigits n).toArray⟩)/\Below w.heap.size w w':=by
 intro f
 induction f with
 |zero=>intro n h;omega
 |succ f ih=>
  intro n hn hb w;by_cases h:n<10
  .have y:(n:Int)<10:=by omega
   have k:=zrt n h (n:Int) rfl ((n:Int)+1) rfl;go_enter func64,ntmps64;go_wp2;go_ret;exact⟨rfl,Below.refl _ _⟩
  .have y:¬(n:Int)<10:=by omega
   have k:=zrt (n%10) (Nat.mod_lt _ (by omega)) ((n%10:Nat):Int) rfl (((n%10:Nat):Int)+1) rfl;have r:(n:Int).tdiv 10=((n /10:Nat):Int):=by rw[Int.tdiv_eq_ediv_of_nonneg (by omega)];rfl
   have u:(n:Int).tmod 10=((n%10:Nat):Int):=by rw[Int.tmod_eq_emod_of_nonneg (by omega)];rfl
   have l:=zt4 h;have m:Hid (∀x:WB w.heap.size w,Calls prog 64 #[.int .i64 ((n /10:Nat):Int)] x.w fun e w'=>e=.returned (.string ⟨(Lib.decDigits (n /10)).toArray⟩)/\Below w.heap.size w w'):=Lib.hid (fun x=>(ih (n /10) (by omega) (by omega) x.w).mono (fun _ _ ⟨z,s⟩=>⟨z,x.h.trans (s.mono x.h.size)⟩));obtain⟨a,j⟩:=ex (Lib.decDigits (n /10))
   obtain⟨b,c⟩:=ex (Lib.decDigits (n%10))
   obtain⟨q,g⟩:=ex (n /10)
   obtain⟨d,i⟩:=ex (n%10)
   have hadd:=zac a b (by
    have v:=Gr.dec_len (n /10) (by omega);have o:=Gr.dec_len (n%10) (by omega);rw[j]at v;rw[c]at o;omega)
   have t:Hid (Lib.decDigits n=a++b):=Lib.hid (by rw[l,j,c]);rw[j,g]at m;rw[c,i]at k;rw[g]at r;rw[i]at u;have hd9:d<=9:=by omega
   have hqb:q<=99999999:=by omega
   clear l j c g i ih;go_enter func64,ntmps64;go_upto_region 3 with fail;refine zab w.heap.size w (by kernel_rfl) (by kernel_rfl) (Below.refl _ _) ?_
   repeat (go_big_quiet_step (((first| (with_reducible refine Calls.grow (m.out _))))))
   refine wpQuiet_nil ?_;rintro _ ⟨p,rfl⟩;go_wp2;go_ret;exact⟨by rw[t.out]<;>rfl,p.h⟩
theorem zll:∀(x y:Gr.Str),Op.bytesLess x y=Gr.ltS x y
 | [],[]=>rfl
 |_::_,[]=>rfl
 | [],_::_=>rfl
 |a::x,b::y=>by
  rw[Op.bytesLess,zll x y,Gr.ltS]
  congr 1
namespace Gr
theorem zru (t:Str) (a b:List Str) (h:∀y∈a,ltS t y=true):insR t (a++b)=a++insR t b:=by
 induction a with
 |nil=>rfl
 |cons y a ih=>
  rw[List.cons_append,insR,if_pos (h y (.head _)),ih (fun z c=>h z (.tail _ c))];rfl
theorem zxb (t:Str) (L:List Str) (k:Nat) (hk:k<=L.length) (h1:∀y∈L.drop k,ltS t y=true) (h2:∀j,(h:j<L.length)->j+1=k->ltS t L[j]=false):insL L t=L.take k++t::L.drop k:=by
 unfold insL;have e:L.reverse=(L.drop k).reverse++(L.take k).reverse:=by rw[<-List.reverse_append,List.take_append_drop]
 rw[e,zru t _ _ (fun y c=>h1 y (List.mem_reverse.1 c)),List.reverse_append,List.reverse_reverse];have b:(insR t (L.take k).reverse).reverse=L.take k++[t]:=by
  cases k with
  |zero=>simp[insR]
  |succ k=>
   have a:k<L.length:=by omega
   rw[List.take_succ_eq_append_getElem a,List.reverse_append,List.reverse_singleton,List.singleton_append,insR,if_neg (by rw[h2 k a rfl];decide)];simp
 rw[b];simp
def wand (L:List Str) (t:Str) (k:Nat):List Str:=L.take k++t::L.drop k
theorem zlm (L:List Str) (t:Str) (k:Nat) (hk:k<=L.length):(wand L t k).length=L.length+1:=by
 unfold wand;simp;omega
theorem zxc (L:List Str) (t:Str) (k:Nat) (hk:k<=L.length):(wand L t k)[k]? =some t:=by
 unfold wand;rw[List.getElem?_append_right (by simp;omega)];simp[Nat.min_eq_left hk]
theorem zt5 (L:List Str) (t:Str) (k:Nat) (hk:k<L.length):(wand L t (k+1))[k]? =some L[k]:=by
 unfold wand;rw[List.getElem?_append_left (by simp;omega),List.getElem?_take,if_pos (by omega),List.getElem?_eq_getElem hk]
theorem zrv (L:List Str) (t:Str) (k:Nat) (hk:k<L.length):((wand L t (k+1)).set k t).set (k+1) L[k]=wand L t k:=by
 unfold wand;apply List.ext_getElem?;intro i;have a:(L.take (k+1)).length=k+1:=by simp;omega
 have hl2:(L.take k).length=k:=by simp;omega
 simp only[List.getElem?_set,List.length_set,List.length_append,List.length_cons,List.length_drop,a];by_cases h1:k+1=i
 .grind
 .grind
theorem zrw (ns:List Nd) (f:Nat) (x:Nd) (i:Nat) (h:i<x.items.length):(ents ns f x).take (i+1)=(ents ns f x).take i++[(if x.kind=10 then printF ns f (x.keys.getD i 0)else[])++printF ns f (x.items.getD i 0)]:=by
 have a:i<(ents ns f x).length:=by unfold ents;simpa using h
 rw[List.take_succ_eq_append_getElem a]
 congr 2
 unfold ents;simp
def entT (ns:List Nd) (f:Nat) (x:Nd) (k:Nat):List Str:=if x.kind=10/\x.ord=false then((ents ns f x).take k).foldl insL []else(ents ns f x).take k
theorem zrx (ns:List Nd) (f:Nat) (x:Nd):entT ns f x 0=[]:=by unfold entT;split<;>simp
theorem zry (ns:List Nd) (f:Nat) (x:Nd) (k:Nat) (h:x.items.length<=k):entT ns f x k=entS ns f x:=by
 have hl:(ents ns f x).length=x.items.length:=by unfold ents;simp
 unfold entT entS sortS;rw[List.take_of_length_le (by omega)]
theorem zt6 (ns:List Nd) (f:Nat) (x:Nd) (k:Nat) (h:k<=x.items.length):(entT ns f x k).length=k:=by
 have hl:(ents ns f x).length=x.items.length:=by unfold ents;simp
 unfold entT;split
 .rw[(zit _ []).length_eq];simp;omega
 .simp;omega
theorem zrz (ns:List Nd) (f:Nat) (x:Nd) (k:Nat) (h:k<x.items.length):entT ns f x (k+1)=if x.kind=10/\x.ord=false then insL (entT ns f x k) ((if x.kind=10 then printF ns f (x.keys.getD k 0)else[])++printF ns f (x.items.getD k 0))
 else entT ns f x k++[(if x.kind=10 then printF ns f (x.keys.getD k 0)else[])++printF ns f (x.items.getD k 0)]:=by
 unfold entT;rw[zrw ns f x k h];by_cases hm:x.kind=10/\x.ord=false
 .grind
 .grind
theorem zfp (l:List Str) (i:Nat):(l.take i).flatten.length<=l.flatten.length:=by
 have:l.flatten=(l.take i).flatten++(l.drop i).flatten:=by rw[<-List.flatten_append,List.take_append_drop]
 rw[this,List.length_append];omega
end Gr
def strL:Lay Gr.Str:={enc:=fun x=>[.string ⟨x.toArray⟩],sz:=1,len:=fun _=>rfl,one:=fun x u hu=>by simp at hu;subst hu;rfl,pos:=by omega}
theorem strT:SliceT Tryz.prog strL 77 9 16:=zbq strL 77 9 (.string ⟨#[]⟩) 16 Tryz.underlying77 (by kernel_rfl) rfl (by omega)
theorem zeo (l:List Gr.Str):strL.all l=l.map (fun x=>Value.string ⟨x.toArray⟩):=by
 induction l with
 |nil=>rfl
 |cons x l ih=>
  have e:strL.all (x::l)=strL.enc x++strL.all l:=rfl;rw[e,ih];rfl
theorem zu1 {w:World} {B:Nat} {A:Option Addr} {l:List Gr.Str} {k:Nat} (h:RowAt strL w B A l) (hk:k<l.length):∃ad,A=some ad/\ad.block<B/\w.cell? (ad.add k)=some (.string ⟨l[k].toArray⟩):=by
 obtain⟨ad,a,b,c,_⟩:=h.get hk;refine⟨ad,a,b,?_⟩;have:=c (.string ⟨l[k].toArray⟩) rfl;rwa[show k*strL.sz=k from Nat.mul_one k]at this
theorem zkc {w:World} {base n c g:Nat} {l:List Gr.Str} (h:OwnRow strL w base 9 (.slice (some ⟨g,0,none⟩) n c) l):∃cur,Blk w g 9 cur/\base<=g/\(∀j (hj:j<l.length),w.cell? ⟨g,j,none⟩=some (.string ⟨l[j].toArray⟩))/\
 (∀j,w.frozen? ⟨g,j,none⟩=false)/\∀j x,j<l.length->OwnRow strL (w.setCell ⟨g,j,none⟩ (.string ⟨x.toArray⟩)) base 9 (.slice (some ⟨g,0,none⟩) n c) (l.set j x):=by
 obtain⟨o,s⟩:=h;rcases s with⟨q,_⟩|⟨g2,cap,cur,r,k,p,f,e,i,a⟩
 .cases q
 .injection r with e1 e2 e3
  injection e1 with e1
  injection e1 with e1 _ _
  subst e1;subst e2;subst e3;have d:Blk w g 9 cur:=p;have b:strL.sz=1:=rfl;rw[b,Nat.mul_one]at a;refine⟨cur,d,k,fun j hj=>?_,d.frozen,fun j x hj=>?_⟩
  .rw[d.cell];have m:(cur.toList.take l.length)[j]? =some (.string ⟨l[j].toArray⟩):=by rw[a,zeo];simp[hj]
   rw[List.getElem?_take,if_pos hj]at m;simpa using m
  .refine⟨by rw[zeo];rw[zeo]at o;simpa using o,.inr ⟨g,c,cur.setIfInBounds j (.string ⟨x.toArray⟩),by rw[List.length_set],k,d.set_ j _,by rw[List.length_set];exact f,e,by simpa using i,?_⟩⟩;rw[b,Nat.mul_one,List.length_set];rw[zeo]at a ⊢;rw[List.map_set,<-a,<-List.take_set];simp
end Go.Proofs.YtpjmhafmeieloabGreatDoor

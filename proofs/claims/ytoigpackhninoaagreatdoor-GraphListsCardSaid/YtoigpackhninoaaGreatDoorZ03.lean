import Derived.Test.YtoigpackhninoaaGreatDoorZ02
import Derived.Test.YtoigpackhninoaaGreatDoorZ04
namespace Go.Proofs.YtoigpackhninoaaGreatDoor
open Gr
open _root_.Go.Proofs.Tryz
open _root_.Go.Lib (hid)
set_option maxRecDepth 100000
set_option maxHeartbeats 16000000
open Go.RowKit
theorem zcd (l:List Nat) (x:Nat):(cstep l x).length=l.length:=by unfold cstep;simp
theorem zb1 (L l:List Nat):(L.foldl cstep l).length=l.length:=by
 induction L generalizing l with
 |nil=>rfl
 |cons x L ih=>rw[List.foldl_cons,ih,zcd]
theorem zee (l:List Nat) (x y:Nat):(cstep l x).getD y 0<=l.getD y 0+1:=by
 unfold cstep;by_cases h:x=y
 ·subst h;by_cases hx:x<l.length
  ·rw[za1 _ _ _ _ hx];exact Nat.le_refl _
  ·rw[List.set_eq_of_length_le (by omega)];omega
 ·rw[Gr.getD_set_ne _ _ _ _ _ h];omega
theorem zda (L l:List Nat) (y:Nat):(L.foldl cstep l).getD y 0<=l.getD y 0+L.length:=by
 induction L generalizing l with
 |nil=>simp
 |cons x L ih=>
  rw[List.foldl_cons,List.length_cons];have:=ih (cstep l x);have:=zee l x y;omega
theorem zdb (ns:List Gr.Nd) (j:Nat) (h:j<ns.length):Gr.refs (ns.take (j+1))=Gr.refs (ns.take j)++(ns[j].keys++ns[j].items):=by
 unfold Gr.refs;rw[List.take_succ_eq_append_getElem h,List.flatMap_append];simp
theorem zux (ns:List Gr.Nd) (j:Nat):(Gr.refs (ns.take j)).length<=(Gr.refs ns).length:=by
 have:Gr.refs ns=Gr.refs (ns.take j)++Gr.refs (ns.drop j):=by
  unfold Gr.refs;rw[<-List.flatMap_append,List.take_append_drop]
 rw[this,List.length_append];omega
def ncells (n:Gr.Nd) (k i:SV):Array Value:=#[.int .i64 n.kind,.string ⟨n.text.toArray⟩,.bool n.ord,k.v,i.v]
theorem zlm (A:Option Addr) (c:Nat) (root:Nat) (vs:List NV) (ns:List Gr.Nd) (hr:Refs ns) (hl:ns.length<=1073741823) (hks:∀n∈ns,n.keys.length<=1073741823/\n.items.length<=1073741823) (hrl:(Gr.refs ns).length<=1125899906842624)
 (w:World) (h:GAt w w.heap.size A vs ns) (hroot:root<ns.length):
 Calls prog 36 #[.agg #[.slice A ns.length c,.int .i64 root]] w fun e w'=>∃ob,e=.returned (.slice (some ⟨ob,0,none⟩) ns.length ns.length)/\w.heap.size<=ob/\Below w.heap.size w w'/\Blk w' ob 3 (icells (counts ns root)):=by
 have H:=hid h;have hmk:=fun W=>zbz ns.length (by omega) W
 have aj:(root:Int)<(ns.length:Int):=by omega
 clear h;go_enter func36,ntmps36;go_upto_region 2 with fail;obtain⟨M,B⟩:=ex ((w.alloc (.cells #[.slice A ns.length c,.int .i64 root] 24)).alloc (.cells (icells (List.replicate ns.length 0)) 3))
 have l2:Below w.heap.size w M:=by rw[<-B];exact((Below.refl _ _).alloc (Nat.le_refl _) _).alloc (by simp) _
 have bg:Blk M w.heap.size 24 #[.slice A ns.length c,.int .i64 root]:=by rw[<-B];exact(Blk.new _ _ _).alloc _
 have bo:Blk M (w.heap.size+1) 3 (icells (List.replicate ns.length 0)):=by
  rw[<-B];have:=Blk.new (w.alloc (.cells #[.slice A ns.length c,.int .i64 root] 24)) 3 (icells (List.replicate ns.length 0));rw[World.size_alloc]at this;exact this
 have g1:M.cell? ⟨w.heap.size,1,none⟩=some (.int .i64 root):=bg.cell 1;have z0:M.cell? ⟨w.heap.size+1,root,none⟩=some (.int .i64 0):=by
  rw[bo.cell,zad (by simpa using hroot)];simp[List.getD_eq_getElem?_getD,hroot]
 have zf:∀i,M.frozen? ⟨w.heap.size+1,i,none⟩=false:=bo.frozen;rw[B];clear B;go_upto_region 3 with fail;obtain⟨f,D⟩:=ex (cstep (List.replicate ns.length 0) root)
 obtain⟨U,y⟩:=ex (M.setCell ⟨w.heap.size+1,root,none⟩ (.int .i64 1))
 have b3:Blk U (w.heap.size+1) 3 (icells f):=by
  rw[<-y,<-D];unfold cstep;have e:(List.replicate ns.length 0).getD root 0=0:=by simp[List.getD_eq_getElem?_getD,hroot]
  rw[e,<-zau];exact bo.set_ root _
 have ag:Blk U w.heap.size 24 #[.slice A ns.length c,.int .i64 root]:=by rw[<-y];exact bg.far (by simp) _
 have g0:U.cell? ⟨w.heap.size,0,none⟩=some (.slice A ns.length c):=ag.cell 0;have L3:Hid (Below w.heap.size w U):=hid (by rw[<-y];exact l2.setCell (by simp) _);have J:Hid (f.length=ns.length/\∀x,f.getD x 0<=1):=hid (by
  rw[<-D];refine⟨by rw[zcd];simp,fun x=>?_⟩;have:=zee (List.replicate ns.length 0) root x;have e:(List.replicate ns.length 0).getD x 0=0:=by simp[List.getD_eq_getElem?_getD,List.getElem?_replicate];split<;>rfl
  omega)
 have ab:Hid (counts ns root=(Gr.refs ns).foldl cstep f):=hid (by rw[<-D];rfl);have af:=hid b3;rw[y];obtain⟨ob,ac⟩:=ex (w.heap.size+1)
 rw[ac]at af ⊢;have l:Hid (w.heap.size<=ob/\w.heap.size<=U.heap.size):=hid ⟨by omega,L3.out.size⟩;clear y l2 bg bo g1 z0 zf b3 ag ac D;go_upto_region 4 with fail;clear g0 aj;go_loopw [24] (fun s24 wr=>∃j:Nat,j<=ns.length/\s24=.int .i64 j/\Hid (KB ob U wr/\Blk wr ob 3 (icells ((Gr.refs (ns.take j)).foldl cstep f)))) (fun s24 _=>ns.length-(intOf s24).toNat)
 case atStart=>exact⟨0,by omega,rfl,hid ⟨KB.refl _ _,by simpa[Gr.refs]using af.out⟩⟩
 case round=>
  obtain⟨j,hj,rfl,Q⟩:=hrel;obtain⟨g,ar⟩:∃g,g=wr:=⟨_,rfl⟩
  subst ar;by_cases hlt:j<ns.length
  ·have aa:(j:Int)<(ns.length:Int):=by omega
   obtain⟨ad,k,i,rfl,z⟩:=(H.out.below (L3.out.trans (Q.out.1.below l.out.1 l.out.2))).node hlt;obtain⟨ka,kn,kc⟩:=k;obtain⟨Z,ao,Y⟩:=i;have N:ns[j]∈ns:=List.getElem_mem hlt;obtain⟨an,ap⟩:=hks _ N;have P:Hid (∀x∈ns[j].keys++ns[j].items,x<ns.length):=hid (hr _ N);obtain⟨R,hR⟩:=ex (Gr.refs (ns.take j))
   have au:=hid hR;have r:Hid (Gr.refs (ns.take (j+1))=R++(ns[j].keys++ns[j].items)):=hid (by rw[zdb ns j hlt,hR]);have s:Hid (R.length+ns[j].keys.length+ns[j].items.length<=1125899906842624):=hid (by
    have h1:=zux ns (j+1);rw[r.out]at h1;simp only[List.length_append]at h1;omega)
   obtain⟨n,hn⟩:=ex (ns[j])
   rw[hn]at z P r s an ap;obtain rfl:kn=n.keys.length:=z.kn;obtain rfl:ao=n.items.length:=z.inn;have x0:=z.c0;have x1:=z.c1;have x2:=z.c2;have x3:=z.c3;have x4:=z.c4;have ak:=hid z.keys;have al:=hid z.items;have G:Hid (w.heap.size<=ob/\w.heap.size<=g.heap.size):=hid ⟨l.out.1,Nat.le_trans l.out.2 Q.out.1.size⟩;clear z N hR hn;go_upto_region 6 with fail;obtain⟨w5,u⟩:=ex (g.alloc (.cells #[.int .i64 n.kind,.string ⟨n.text.toArray⟩,.bool n.ord,.slice ka n.keys.length kc,.slice Z n.items.length Y] 35))
   have b5:Blk w5 g.heap.size 35 (ncells n ⟨ka,n.keys.length,kc⟩ ⟨Z,n.items.length,Y⟩):=by rw[<-u];exact Blk.new _ _ _
   have s3:w5.cell? ⟨g.heap.size,3,none⟩=some (.slice ka n.keys.length kc):=b5.cell 3;have q:Hid (KB ob g w5/\Blk w5 ob 3 (icells (R.foldl cstep f))/\Blk w5 g.heap.size 35 (ncells n ⟨ka,n.keys.length,kc⟩ ⟨Z,n.items.length,Y⟩)):=hid ⟨by rw[<-u];exact(KB.refl _ _).alloc _,by
    have:=Q.out.2;rw[au.out]at this;rw[<-u];exact this.alloc _,b5⟩
   rw[u];obtain⟨m,t⟩:=ex (ncells n ⟨ka,n.keys.length,kc⟩ ⟨Z,n.items.length,Y⟩)
   have ai:Hid (m[4]? =some (.slice Z n.items.length Y)):=hid (by rw[<-t];rfl);rw[t]at q;clear t;obtain⟨T,ae⟩:=ex g.heap.size
   rw[ae]at q s3 ⊢;clear u b5 x0 x1 x2 x3 x4 ae;go_upto_region 7 with fail;clear s3;go_loopw [31] (fun s31 wr=>∃k:Nat,k<=n.keys.length/\s31=.int .i64 k/\Hid (KB ob g wr/\Blk wr ob 3 (icells ((R++n.keys.take k).foldl cstep f))/\Blk wr T 35 m)) (fun s31 _=>n.keys.length-(intOf s31).toNat)
   case atStart=>exact⟨0,by omega,rfl,hid ⟨q.out.1,by simpa using q.out.2.1,q.out.2.2⟩⟩
   case round=>
    obtain⟨k,hk,rfl,b⟩:=hrel;by_cases hlk:k<n.keys.length
    ·have o:(k:Int)<(n.keys.length:Int):=by omega
     obtain⟨x,E⟩:=ex (n.keys[k])
     obtain⟨aq,rfl,_,y0⟩:=zae (ak.out.below (b.out.1.below G.out.1 G.out.2)) hlk;rw[E]at y0;have ah:x<ns.length:=P.out x (by simp[<-E]);obtain⟨d,a⟩:=ex ((R++n.keys.take k).foldl cstep f)
     have V:d.length=ns.length:=by rw[<-a,zb1,J.out.1]
     have X:d.getD x 0<=1125899906842625:=by
      rw[<-a];have h1:=zda (R++n.keys.take k) f x;have h2:=J.out.2 x;have h3:=s.out;rw[List.length_append,List.length_take]at h1;omega
     have av:k<=1073741823:=by omega
     have p:=b.out.2.1;rw[a]at p;obtain⟨v,F⟩:=ex (d.getD x 0)
     have z0:wr.cell? ⟨ob,x,none⟩=some (.int .i64 (v:Int)):=by rw[p.cell,zad (by omega),F]
     have zf:∀i,wr.frozen? ⟨ob,i,none⟩=false:=p.frozen;have am:(x:Int)<(ns.length:Int):=by omega
     rw[F]at X;have S:Hid (KB ob g (wr.setCell ⟨ob,x,none⟩ (.int .i64 ((v:Int)+1)))/\Blk (wr.setCell ⟨ob,x,none⟩ (.int .i64 ((v:Int)+1))) ob 3 (icells ((R++n.keys.take (k+1)).foldl cstep f))/\Blk (wr.setCell ⟨ob,x,none⟩ (.int .i64 ((v:Int)+1))) T 35 m):=hid (by
      refine⟨b.out.1.set _ _,?_,b.out.2.2.far (b.out.2.2.ne_ p (by decide)) _⟩;rw[zaj _ _ hlk,<-List.append_assoc,List.foldl_append,a,E];show Blk _ _ _ (icells (cstep d x));unfold cstep;rw[F,<-zau,show(((v+1:Nat)):Int)=(v:Int)+1 from by omega];exact p.set_ x _)
     clear p a V F E b;go_wp2;go_roundw
     case rel=>exact⟨k+1,by omega,by go_num,S⟩
     case measure=>simp[intOf];omega
    ·have o:¬((k:Int)<(n.keys.length:Int)):=by omega
     have C:Hid (KB ob g wr/\Blk wr ob 3 (icells ((R++n.keys).foldl cstep f))/\Blk wr T 35 m):=hid ⟨b.out.1,by have:=b.out.2.1;rw[show k=n.keys.length from by omega,List.take_length]at this;exact this,b.out.2.2⟩;clear b q;obtain⟨O,I⟩:=ex (R++n.keys)
     have q:=hid C.out;rw[I]at q;have L:Hid (O.length+n.items.length<=1125899906842624):=hid (by rw[<-I,List.length_append];have:=s.out;omega);have K:Hid (Gr.refs (ns.take (j+1))=O++n.items):=hid (by rw[r.out,<-I,List.append_assoc]);clear s r I C hk hlk;have r:=K;have s:=L;clear L K;have s4:wr.cell? ⟨T,4,none⟩=some (.slice Z n.items.length Y):=(q.out.2.2.cell 4).trans ai.out;go_upto_region 12 with fail;clear s4 o;go_loopw [45] (fun s45 wr=>∃k:Nat,k<=n.items.length/\s45=.int .i64 k/\Hid (KB ob g wr/\Blk wr ob 3 (icells ((O++n.items.take k).foldl cstep f))/\Blk wr T 35 m)) (fun s45 _=>n.items.length-(intOf s45).toNat)
     case atStart=>exact⟨0,by omega,rfl,hid ⟨q.out.1,by simpa using q.out.2.1,q.out.2.2⟩⟩
     case round=>
      obtain⟨k,hk,rfl,b⟩:=hrel;by_cases hlk:k<n.items.length
      ·have o:(k:Int)<(n.items.length:Int):=by omega
       obtain⟨x,E⟩:=ex (n.items[k])
       obtain⟨aq,rfl,_,y0⟩:=zae (al.out.below (b.out.1.below G.out.1 G.out.2)) hlk;rw[E]at y0;have ah:x<ns.length:=P.out x (by simp[<-E]);obtain⟨d,a⟩:=ex ((O++n.items.take k).foldl cstep f)
       have V:d.length=ns.length:=by rw[<-a,zb1,J.out.1]
       have X:d.getD x 0<=1125899906842625:=by
        rw[<-a];have h1:=zda (O++n.items.take k) f x;have h2:=J.out.2 x;have h3:=s.out;rw[List.length_append,List.length_take]at h1;omega
       have av:k<=1073741823:=by omega
       have p:=b.out.2.1;rw[a]at p;obtain⟨v,F⟩:=ex (d.getD x 0)
       have z0:wr.cell? ⟨ob,x,none⟩=some (.int .i64 (v:Int)):=by rw[p.cell,zad (by omega),F]
       have zf:∀i,wr.frozen? ⟨ob,i,none⟩=false:=p.frozen;have am:(x:Int)<(ns.length:Int):=by omega
       rw[F]at X;have S:Hid (KB ob g (wr.setCell ⟨ob,x,none⟩ (.int .i64 ((v:Int)+1)))/\Blk (wr.setCell ⟨ob,x,none⟩ (.int .i64 ((v:Int)+1))) ob 3 (icells ((O++n.items.take (k+1)).foldl cstep f))/\Blk (wr.setCell ⟨ob,x,none⟩ (.int .i64 ((v:Int)+1))) T 35 m):=hid (by
        refine⟨b.out.1.set _ _,?_,b.out.2.2.far (b.out.2.2.ne_ p (by decide)) _⟩;rw[zaj _ _ hlk,<-List.append_assoc,List.foldl_append,a,E];show Blk _ _ _ (icells (cstep d x));unfold cstep;rw[F,<-zau,show(((v+1:Nat)):Int)=(v:Int)+1 from by omega];exact p.set_ x _)
       clear p a V F E b;go_wp2;go_roundw
       case rel=>exact⟨k+1,by omega,by go_num,S⟩
       case measure=>simp[intOf];omega
      ·have o:¬((k:Int)<(n.items.length:Int)):=by omega
       have C:Hid (KB ob g wr/\Blk wr ob 3 (icells ((O++n.items).foldl cstep f))/\Blk wr T 35 m):=hid ⟨b.out.1,by have:=b.out.2.1;rw[show k=n.items.length from by omega,List.take_length]at this;exact this,b.out.2.2⟩;clear b q;have HE:Hid (KB ob U wr/\Blk wr ob 3 (icells ((Gr.refs (ns.take (j+1))).foldl cstep f))):=hid ⟨Q.out.1.trans C.out.1,by have:=C.out.2.1;rw[r.out];exact this⟩;clear hk;go_wp2;go_roundw
       case rel=>exact⟨j+1,by omega,by go_num,HE⟩
       case measure=>simp[intOf];omega
  ·have aa:¬((j:Int)<(ns.length:Int)):=by omega
   have HE:Hid (Below w.heap.size w g/\Blk g ob 3 (icells (counts ns root))):=hid ⟨L3.out.trans (Q.out.1.below l.out.1 l.out.2),by
    have:=Q.out.2;rw[show j=ns.length from by omega,List.take_length]at this;rw[ab.out];exact this⟩
   clear Q;go_wp2;go_ret;exact⟨ob,rfl,l.out.1,HE.out⟩
theorem zhe (ns:List Gr.Nd) (j:Nat) (h:j<ns.length):allKeys (ns.take (j+1))=allKeys (ns.take j)++ns[j].keys:=by
 unfold allKeys;rw[List.take_succ_eq_append_getElem h,List.flatMap_append];simp
theorem zi5 {ns:List Gr.Nd} (hr:Refs ns):∀x∈allKeys ns,x<ns.length:=by
 intro x b;obtain⟨y,c,a⟩:=List.mem_flatMap.1 b;exact hr y c x (List.mem_append_left _ a)
theorem zke (ns:List Gr.Nd) (j:Nat):∀x∈allKeys (ns.take j),x∈allKeys ns:=by
 intro x b;obtain⟨y,c,a⟩:=List.mem_flatMap.1 b;exact List.mem_flatMap.2 ⟨y,List.mem_of_mem_take c,a⟩
theorem zhf (n:Nat) (m:List Bool):unm n m<=n:=Nat.le_trans List.countP_le_length (by simp)
theorem zes {ns:List Gr.Nd} (hr:Refs ns) (L:List Nat) (m:List Bool) (hL:∀x∈L,x<ns.length) (hm:m.length=ns.length):(L.foldl (dvisit (Gr.succ ns) ns.length) m).length=ns.length:=
 (zeq (zbo hr.succ ns.length) L m hL hm (zhf _ _)).len
theorem zln (A:Option Addr) (c:Nat) (root:Int) (vs:List NV) (ns:List Gr.Nd) (hr:Refs ns) (hl:ns.length<=1073741823) (hks:∀n∈ns,n.keys.length<=1073741823/\n.items.length<=1073741823)
 (w:World) (h:GAt w w.heap.size A vs ns):
 Calls prog 37 #[.agg #[.slice A ns.length c,.int .i64 root]] w fun e w'=>∃ob,e=.returned (.slice (some ⟨ob,0,none⟩) ns.length ns.length)/\w.heap.size<=ob/\Below w.heap.size w w'/\Blk w' ob 4 (bcells (inKeys ns)):=by
 have H:=hid h;have hmk:=fun W=>zb0 ns.length (by omega) W
 clear h;go_enter func37,ntmps37;go_upto_region 2 with fail;obtain⟨z,b⟩:=ex ((w.alloc (.cells #[.slice A ns.length c,.int .i64 root] 24)).alloc (.cells (bcells (List.replicate ns.length false)) 4))
 have l3:Below w.heap.size w z:=by rw[<-b];exact((Below.refl _ _).alloc (Nat.le_refl _) _).alloc (by simp) _
 have bg:Blk z w.heap.size 24 #[.slice A ns.length c,.int .i64 root]:=by rw[<-b];exact(Blk.new _ _ _).alloc _
 obtain⟨q,f⟩:=ex (List.replicate ns.length false)
 rw[f]at b;have bo:Blk z (w.heap.size+1) 4 (bcells q):=by
  rw[<-b];have:=Blk.new (w.alloc (.cells #[.slice A ns.length c,.int .i64 root] 24)) 4 (bcells q);rw[World.size_alloc]at this;exact this
 have S:z.cell? ⟨w.heap.size,0,none⟩=some (.slice A ns.length c):=bg.cell 0;have aa:Hid (q.length=ns.length):=hid (by rw[<-f];simp);have F:Hid (inKeys ns=(allKeys ns).foldl (dvisit (Gr.succ ns) ns.length) q):=hid (by rw[<-f];rfl);have X:=hid l3;have K:=hid bo;have M:=hid bg;rw[f,b];obtain⟨ob,J⟩:=ex (w.heap.size+1)
 obtain⟨gb,B⟩:=ex w.heap.size
 have a:Hid (w.heap.size<=ob/\w.heap.size<=z.heap.size/\gb≠ob):=hid ⟨by omega,X.out.size,by omega⟩;rw[J]at K ⊢;rw[B]at S M;rw[show(Value.pointer (some ({block:=w.heap.size,off:=0}:Addr)))=.pointer (some {block:=gb,off:=0})from by rw[B]];clear b l3 bo bg f J B;go_upto_region 3 with fail;clear S;go_loopw [15] (fun s15 wr=>∃j:Nat,j<=ns.length/\s15=.int .i64 j/\Hid (KB ob z wr/\Blk wr ob 4 (bcells ((allKeys (ns.take j)).foldl (dvisit (Gr.succ ns) ns.length) q)))) (fun s15 _=>ns.length-(intOf s15).toNat)
 case atStart=>exact⟨0,by omega,rfl,hid ⟨KB.refl _ _,by simpa[allKeys]using K.out⟩⟩
 case round=>
  obtain⟨j,hj,rfl,r⟩:=hrel;obtain⟨d,V⟩:∃d,d=wr:=⟨_,rfl⟩
  subst V;by_cases hlt:j<ns.length
  ·have C:(j:Int)<(ns.length:Int):=by omega
   have L:Hid (GAt d w.heap.size A vs ns):=hid (H.out.below (X.out.trans (r.out.1.below a.out.1 a.out.2.1)));obtain⟨ad,k,i,rfl,l⟩:=L.out.node hlt;obtain⟨ka,kn,kc⟩:=k;obtain⟨ia,R,ic⟩:=i;have u:ns[j]∈ns:=List.getElem_mem hlt;obtain⟨Q,U⟩:=hks _ u;have v:Hid (∀x∈ns[j].keys,x<ns.length):=hid (fun x p=>hr _ u x (List.mem_append_left _ p));obtain⟨s,m⟩:=ex ((allKeys (ns.take j)).foldl (dvisit (Gr.succ ns) ns.length) q)
   have Z:Hid (s.length=ns.length):=hid (by rw[<-m];exact zes hr _ _ (fun x p=>zi5 hr x (zke ns j x p)) aa.out);have Y:=hid m;have D:Hid ((allKeys (ns.take (j+1))).foldl (dvisit (Gr.succ ns) ns.length) q=ns[j].keys.foldl (dvisit (Gr.succ ns) ns.length) s):=hid (by rw[zhe ns j hlt,List.foldl_append,m]);obtain⟨n,hn⟩:=ex (ns[j])
   rw[hn]at l v D Q U;obtain rfl:kn=n.keys.length:=l.kn;obtain rfl:R=n.items.length:=l.inn;have x0:=l.c0;have x1:=l.c1;have x2:=l.c2;have x3:=l.c3;have x4:=l.c4;have P:=hid l.keys;have o:Hid (w.heap.size<=ob/\w.heap.size<=d.heap.size):=hid ⟨a.out.1,Nat.le_trans a.out.2.1 r.out.1.size⟩;clear l u m hn;go_upto_region 5 with fail;obtain⟨O,g⟩:=ex (d.alloc (.cells #[.int .i64 n.kind,.string ⟨n.text.toArray⟩,.bool n.ord,.slice ka n.keys.length kc,.slice ia n.items.length ic] 35))
   have b5:Blk O d.heap.size 35 (ncells n ⟨ka,n.keys.length,kc⟩ ⟨ia,n.items.length,ic⟩):=by rw[<-g];exact Blk.new _ _ _
   have s3:O.cell? ⟨d.heap.size,3,none⟩=some (.slice ka n.keys.length kc):=b5.cell 3;have HA:Hid (KB ob d O/\Blk O ob 4 (bcells s)):=hid ⟨by rw[<-g];exact(KB.refl _ _).alloc _,by
    have:=r.out.2;rw[Y.out]at this;rw[<-g];exact this.alloc _⟩
   rw[g];clear g b5 x0 x1 x2 x3 x4;go_upto_region 6 with fail;clear s3;go_loopw [22] (fun s22 wr=>∃k:Nat,k<=n.keys.length/\s22=.int .i64 k/\Hid (KB ob d wr/\Blk wr ob 4 (bcells ((n.keys.take k).foldl (dvisit (Gr.succ ns) ns.length) s)))) (fun s22 _=>n.keys.length-(intOf s22).toNat)
   case atStart=>exact⟨0,by omega,rfl,hid ⟨HA.out.1,by simpa using HA.out.2⟩⟩
   case round=>
    obtain⟨k,hk,rfl,t⟩:=hrel;by_cases hlk:k<n.keys.length
    ·have N:(k:Int)<(n.keys.length:Int):=by omega
     obtain⟨x,p⟩:=ex (n.keys[k])
     obtain⟨ad2,rfl,_,y0⟩:=zae (P.out.below (t.out.1.below o.out.1 o.out.2)) hlk;rw[p]at y0;have I:Blk wr gb 24 _:=t.out.1.blk (r.out.1.blk M.out a.out.2.2) a.out.2.2;obtain⟨S,g1⟩:=cells2 I;have HC:=hid (zer ob (some ad) c root vs ns w.heap.size hr hl hks ((n.keys.take k).foldl (dvisit (Gr.succ ns) ns.length) s) x wr (L.out.below (t.out.1.below o.out.1 o.out.2)) a.out.1 t.out.2
      (zes hr _ _ (fun y hy=>v.out y (List.mem_of_mem_take hy)) Z.out) (v.out x (p▸List.getElem_mem hlk)) (zhf _ _))
     have HT:Hid ((n.keys.take (k+1)).foldl (dvisit (Gr.succ ns) ns.length) s=dvisit (Gr.succ ns) ns.length ((n.keys.take k).foldl (dvisit (Gr.succ ns) ns.length) s) x):=hid (by rw[zaj _ _ hlk,List.foldl_append,p];rfl);clear p I;go_wp2_with fail;refine HC.out.mono ?_;rintro e w6 ⟨rfl,E,G⟩;have T:Hid (KB ob d w6/\Blk w6 ob 4 (bcells ((n.keys.take (k+1)).foldl (dvisit (Gr.succ ns) ns.length) s))):=hid ⟨t.out.1.trans E,by rw[HT.out];exact G⟩;clear E G;go_wp2;go_roundw
     case rel=>exact⟨k+1,by omega,by go_num,T⟩
     case measure=>simp[intOf];omega
    ·have N:¬((k:Int)<(n.keys.length:Int)):=by omega
     have HE:Hid (KB ob z wr/\Blk wr ob 4 (bcells ((allKeys (ns.take (j+1))).foldl (dvisit (Gr.succ ns) ns.length) q))):=hid ⟨r.out.1.trans t.out.1,by
      have:=t.out.2;rw[show k=n.keys.length from by omega,List.take_length]at this;rw[D.out];exact this⟩
     clear t hk;go_wp2;go_roundw
     case rel=>exact⟨j+1,by omega,by go_num,HE⟩
     case measure=>simp[intOf];omega
  ·have C:¬((j:Int)<(ns.length:Int)):=by omega
   have HE:Hid (Below w.heap.size w d/\Blk d ob 4 (bcells (inKeys ns))):=hid ⟨X.out.trans (r.out.1.below a.out.1 a.out.2.1),by
    have:=r.out.2;rw[show j=ns.length from by omega,List.take_length]at this;rw[F.out];exact this⟩
   clear r;go_wp2;go_ret;exact⟨ob,rfl,a.out.1,HE.out⟩
def zkv (s:Gr.Str) (a n ab:Nat) (w:World) (e:Ending) (w':World):Prop:=Kept1 ab w w'/\((∃v:Nat,numAt s a n=some v/\e=.returned (.tuple #[.int .i64 (v:Int),.bool true])/\Blk w' ab 3 #[.int .i64 ((a+n:Nat):Int)])\/(numAt s a n=none/\e=.returned (.tuple #[.int .i64 0,.bool false])/\∃a':Nat,a'<=s.length/\Blk w' ab 3 #[.int .i64 (a':Int)]))
theorem zsx (s:Gr.Str) (hl:s.length<=1073741823) (ab sb a n:Nat) (j:Int) (hj:j=(n:Int)) (hn:n<=9) (ha:a<=s.length) (w:World) (hA:Blk w ab 3 #[.int .i64 (a:Int)]) (hS:Blk w sb 9 #[.string ⟨s.toArray⟩]):
 Calls prog 124 #[.int .i64 j,.pointer (some ⟨ab,0,none⟩),.pointer (some ⟨sb,0,none⟩)] w (zkv s a n ab w):=by
 subst hj;have o:sb≠ab:=by
  intro e;subst e;have:=hA.symm.trans hS;simp at this
 have x:=hid hA;have t:=hid hS;clear hA hS;go_enter func124,ntmps124;go_wp2_with fail;go_loopw [6,8] (fun s6 s8 wr=>∃k v:Nat,k<=n/\v<=999999999/\a+k<=s.length/\s6=.int .i64 (v:Int)/\s8=.int .i64 (k:Int)/\Hid (((s.drop a).take k).all Gr.dig=true/\v=Gr.val ((s.drop a).take k)/\Blk wr ab 3 #[.int .i64 ((a+k:Nat):Int)]/\Kept1 ab w wr)) (fun _ s8 _=>n-(intOf s8).toNat)
 case atStart=>exact⟨0,0,by omega,by omega,by omega,rfl,rfl,hid ⟨by simp,by simp[Gr.val],x.out,Kept1.refl _ _⟩⟩
 case round=>
  obtain⟨k,v,hk,hv,hak,rfl,rfl,c⟩:=hrel;have qA:wr.cell? ⟨ab,0,none⟩=some (.int .i64 ((a+k:Nat):Int)):=c.out.2.2.1.cell 0;have qF:∀j,wr.frozen? ⟨ab,j,none⟩=false:=c.out.2.2.1.frozen;have qS:wr.cell? ⟨sb,0,none⟩=some (.string ⟨s.toArray⟩):=(c.out.2.2.2.blk t.out o).cell 0;by_cases hlt:k<n
  ·have h:(k:Int)<(n:Int):=by omega
   by_cases hltS:a+k<s.length
   ·have m:¬(s.length:Int)<=((a+k:Nat):Int):=by omega
    obtain⟨b,l⟩:∃b:Nat,(s[a+k]'hltS).toNat=b:=⟨_,rfl⟩
    have hbv:(((⟨s.toArray⟩:ByteArray)[a+k]'(by simpa[ByteArray.size]using hltS)).toNat:Int)=(b:Int):=by rw[<-l];rfl
    have hbl:b<256:=by rw[<-l];exact(s[a+k]'hltS).toNat_lt
    have f:=hid (zdw (s[a+k]'hltS) b l);clear l;by_cases h48:48<=b
    ·have r:¬(b:Int)<48:=by omega
     have b48:(48:Int)<=(b:Int):=by omega
     by_cases h57:b<=57
     ·have p:¬(57:Int)<(b:Int):=by omega
      have u:=hid (zch s a k hltS);have d:Hid (((s.drop a).take (k+1)).all Gr.dig=true/\10*v+(b-48)=Gr.val ((s.drop a).take (k+1))):=hid (by
       rw[u.out,List.all_append,c.out.1,zbj,<-c.out.2.1,f.out.2];exact⟨by simp[f.out.1,h48,h57],rfl⟩)
      have q:10*v+(b-48)<=999999999:=by
       rw[d.out.2];have:=zku _ d.out.1 (by simp;omega);omega
      have i:Hid (Blk (wr.setCell ⟨ab,0,none⟩ (.int .i64 (((a+k:Nat):Int)+1))) ab 3 #[.int .i64 ((a+(k+1):Nat):Int)]/\Kept1 ab w (wr.setCell ⟨ab,0,none⟩ (.int .i64 (((a+k:Nat):Int)+1)))):=hid ⟨by rw[show((a+(k+1):Nat):Int)=((a+k:Nat):Int)+1 from by omega];exact c.out.2.2.1.set_ 0 _,c.out.2.2.2.trans (Kept1.set 0 _)⟩;go_wp2;go_roundw
      case rel=>exact⟨k+1,10*v+(b-48),by omega,q,by omega,by exact congrArg (Value.int .i64) (by omega),by go_num,hid ⟨d.out.1,d.out.2,i.out.1,i.out.2⟩⟩
      case measure=>simp[intOf];omega
     ·have p:(57:Int)<(b:Int):=by omega
      have g:=hid (zdg s a n k hlt hltS (by rw[f.out.1];simp[h57]));go_wp2;go_ret2;exact⟨c.out.2.2.2,.inr ⟨g.out,rfl,a+k,by omega,c.out.2.2.1⟩⟩
    ·have r:(b:Int)<48:=by omega
     have g:=hid (zdg s a n k hlt hltS (by rw[f.out.1];simp[h48]));go_wp2;go_ret2;exact⟨c.out.2.2.2,.inr ⟨g.out,rfl,a+k,by omega,c.out.2.2.1⟩⟩
   ·have m:(s.length:Int)<=((a+k:Nat):Int):=by omega
    have g:=hid (zc1 s a n (by omega));go_wp2;go_ret2;exact⟨c.out.2.2.2,.inr ⟨g.out,rfl,a+k,by omega,c.out.2.2.1⟩⟩
  ·obtain rfl:k=n:=by omega
   have h:¬(k:Int)<(k:Int):=by omega
   have g:Hid (numAt s a k=some v):=hid (by rw[zh1 s a k (by omega) c.out.1,c.out.2.1]);clear hlt;go_wp2;go_ret2;exact⟨c.out.2.2.2,.inl ⟨v,g.out,rfl,c.out.2.2.1⟩⟩
def posAt (a first i:Nat):Nat:=if i=0 then a else a+first+3*(i-1)
def fldAt (s:Gr.Str) (a first:Nat) (c:Nat) (i:Nat):Option Nat:=if i=0 then numAt s a first else if isAt s (posAt a first i) (UInt8.ofNat c)=true then numAt s (posAt a first i+1) 2 else none
def mC (sh:Nat) (f:Nat->Nat) (nn z:Nat):Array Value:=#[.int .i64 (sh:Int),.int .i64 (f 0:Int),.int .i64 (f 1:Int),.int .i64 (f 2:Int),.int .i64 (f 3:Int),.int .i64 (f 4:Int),.int .i64 (f 5:Int),.int .i64 (f 6:Int),.int .i64 (f 7:Int),.int .i64 (nn:Int),.int .u8 (z:Int)]
def fset (f:Nat->Nat) (i v:Nat):Nat->Nat:=fun j=>if j=i then v else f j
theorem zxs {sh nn z:Nat} {f:Nat->Nat} {i:Nat} (h:i<8) (v:Nat):(mC sh f nn z).setIfInBounds (1+i) (.int .i64 (v:Int))=mC sh (fset f i v) nn z:=by
 have:i=0\/i=1\/i=2\/i=3\/i=4\/i=5\/i=6\/i=7:=by omega
 rcases this with rfl|rfl|rfl|rfl|rfl|rfl|rfl|rfl<;>rfl
theorem zuc {sh nn z:Nat} {f:Nat->Nat} {i:Nat} (h:i<8):(mC sh f nn z)[1+i]? =some (.int .i64 (f i:Int)):=by
 have:i=0\/i=1\/i=2\/i=3\/i=4\/i=5\/i=6\/i=7:=by omega
 rcases this with rfl|rfl|rfl|rfl|rfl|rfl|rfl|rfl<;>rfl
theorem zpi {a first i:Nat} (h:0<i):posAt a first (i+1)=posAt a first i+1+2:=by
 unfold posAt;rw[if_neg (by omega),if_neg (by omega)];omega
theorem zpj {a first:Nat}:posAt a first 1=a+first:=by simp[posAt]
theorem zvp {s:Gr.Str} {p c b:Nat} (hp:p<s.length) (hb:(s[p]'hp).toNat=b) (hc:c<256) (h:b≠c):isAt s p (UInt8.ofNat c)=false:=by
 unfold isAt;rw[List.getElem?_eq_getElem hp];simp;intro e;apply h;rw[<-hb,e];simp;omega
theorem zkw {s:Gr.Str} {p c b:Nat} (hp:p<s.length) (hb:(s[p]'hp).toNat=b) (h:b=c):isAt s p (UInt8.ofNat c)=true:=by
 unfold isAt;rw[List.getElem?_eq_getElem hp];subst h;rw[<-hb];simp
theorem zgy {s:Gr.Str} {p:Nat} {c:UInt8} (hp:s.length<=p):isAt s p c=false:=by
 unfold isAt;rw[List.getElem?_eq_none hp];rfl
def KM (mb ab:Nat) (w w':World):Prop:=zbg w w' (fun k=>k=mb\/k=ab)
theorem KM.refl (mb ab:Nat) (w:World):KM mb ab w w:=⟨rfl,rfl,rfl,Nat.le_refl _,fun _ _ _=>rfl⟩
theorem KM.trans {mb ab:Nat} {a b c:World} (h:KM mb ab a b) (h2:KM mb ab b c):KM mb ab a c:=
 ⟨h2.os.trans h.os,h2.tape.trans h.tape,h2.output.trans h.output,Nat.le_trans h.size h2.size,fun k e d=>(h2.block k (Nat.lt_of_lt_of_le e h.size) d).trans (h.block k e d)⟩
theorem KM.ofA {mb ab:Nat} {a b:World} (h:Kept1 ab a b):KM mb ab a b:=⟨h.os,h.tape,h.output,Nat.le_of_eq h.size.symm,fun k _ c=>h.block k (fun e=>c (.inr e))⟩
theorem KM.ofM {mb ab:Nat} {a b:World} (h:Kept1 mb a b):KM mb ab a b:=⟨h.os,h.tape,h.output,Nat.le_of_eq h.size.symm,fun k _ c=>h.block k (fun e=>c (.inl e))⟩
theorem KM.blk {mb ab k:Nat} {a b:World} {t:TypeId} {cs:Array Value} (h:KM mb ab a b) (hb:Blk a k t cs) (h1:k≠mb) (h2:k≠ab):Blk b k t cs:=(h.block k hb.lt (by rintro(e|e);exact h1 e;exact h2 e)).trans hb
def FldPost (s:Gr.Str) (a first c o n mb ab sh:Nat) (f:Nat->Nat) (nn z:Nat) (w:World) (e:Ending) (w':World):Prop:=
 KM mb ab w w'/\∃f':Nat->Nat,Blk w' mb 135 (mC sh f' nn z)/\((e=.returned (.bool true)/\(∀j,j<n->fldAt s a first c j=some (f' (o+j)))/\(∀j,j<o\/o+n<=j->f' j=f j)/\Blk w' ab 3 #[.int .i64 (posAt a first n:Int)]/\posAt a first n<=s.length)\/(e=.returned (.bool false)/\(∃j,j<n/\fldAt s a first c j=none)/\∃p:Nat,p<=s.length/\Blk w' ab 3 #[.int .i64 (p:Int)]))
theorem zdx (s:Gr.Str) (hl:s.length<=1073741823) (ab sb fb mb a first c o n k:Nat) (sh:Nat) (f:Nat->Nat) (nn z:Nat) (j jc:Int) (hj:j=(first:Int)) (hjc:jc=(c:Int)) (hc:c<256) (hfirst:first<=9) (hn:n<=3) (hnk:n<=k) (hk:k<=8) (ho:o+n<=8) (O:Nat) (hO:O=1+o) (ha:a<=s.length) (w:World) (hA:Blk w ab 3 #[.int .i64 (a:Int)]) (hS:Blk w sb 9 #[.string ⟨s.toArray⟩]) (hF:Blk w fb 170 #[.func (.func 124) #[] #[.pointer (some ⟨ab,0,none⟩),.pointer (some ⟨sb,0,none⟩)]]) (hM:Blk w mb 135 (mC sh f nn z)):
 Calls prog 125 #[.slice (some ⟨mb,O,none⟩) n k,.int .i64 j,.int .u8 jc,.pointer (some ⟨ab,0,none⟩),.pointer (some ⟨sb,0,none⟩),.pointer (some ⟨fb,0,none⟩)] w (FldPost s a first c o n mb ab sh f nn z w):=by
 subst hj;subst hjc;subst hO;have Z:sb≠ab:=hS.ne_ hA (by decide);have P:sb≠mb:=hS.ne_ hM (by decide);have aa:fb≠ab:=hF.ne_ hA (by decide);have U:fb≠mb:=hF.ne_ hM (by decide);have N:mb≠ab:=hM.ne_ hA (by decide);have HA:=hid hA;have HS:=hid hS;have S:=hid hF;have HM:=hid hM;have d:=hid (show(sb≠ab/\sb≠mb)/\(fb≠ab/\fb≠mb)/\mb≠ab from⟨⟨Z,P⟩,⟨aa,U⟩,N⟩);clear hA hS hF hM Z P aa U N;have V:Hid (∀(W:World) (p q:Nat),q<=9->p<=s.length->Blk W ab 3 #[.int .i64 (p:Int)]->Blk W sb 9 #[.string ⟨s.toArray⟩]->Calls prog 124 #[.int .i64 (q:Int),.pointer (some ⟨ab,0,none⟩),.pointer (some ⟨sb,0,none⟩)] W (zkv s p q ab W)):=hid (fun W p q hq X h1 h2=>zsx s hl ab sb p q _ rfl hq X W h1 h2);go_enter func125,ntmps125;go_wp2_with fail;go_loopw [10,11,12,13,16] (fun s10 s11 s12 s13 s16 wr=>∃i:Nat,i<=n/\s16=.int .i64 (i:Int)/\Hid (∃f':Nat->Nat,KM mb ab w wr/\Blk wr mb 135 (mC sh f' nn z)/\(∀j,j<i->fldAt s a first c j=some (f' (o+j)))/\(∀j,j<o\/o+n<=j->f' j=f j)/\Blk wr ab 3 #[.int .i64 (posAt a first i:Int)]/\posAt a first i<=s.length)) (fun _ _ _ _ s16 _=>n-(intOf s16).toNat)
 case atStart=>exact⟨0,by omega,rfl,hid ⟨f,KM.refl _ _ _,HM.out,fun j hj=>absurd hj (by omega),fun _ _=>rfl,by simpa[posAt]using HA.out,by simpa[posAt]using ha⟩⟩
 case round=>
  obtain⟨i,hi,rfl,HV⟩:=hrel;obtain⟨f',C,M,Q,R,D,u⟩:=HV.out;obtain⟨p,X⟩:=ex (posAt a first i)
  rw[X]at D u;have qS:wr.cell? ⟨sb,0,none⟩=some (.string ⟨s.toArray⟩):=(C.blk HS.out d.out.1.2 d.out.1.1).cell 0;have qA:wr.cell? ⟨ab,0,none⟩=some (.int .i64 (p:Int)):=D.cell 0;have qAF:∀j,wr.frozen? ⟨ab,j,none⟩=false:=D.frozen;have qF:wr.cell? ⟨fb,0,none⟩=some (.func (.func 124) #[] #[.pointer (some ⟨ab,0,none⟩),.pointer (some ⟨sb,0,none⟩)]):=(C.blk S.out d.out.2.1.2 d.out.2.1.1).cell 0;have qF1:∀v,(wr.setCell ⟨ab,0,none⟩ v).cell? ⟨fb,0,none⟩=some (.func (.func 124) #[] #[.pointer (some ⟨ab,0,none⟩),.pointer (some ⟨sb,0,none⟩)]):=fun v=>((C.blk S.out d.out.2.1.2 d.out.2.1.1).far d.out.2.1.1 v).cell 0
  have G:=hid X;have m:Hid (KM mb ab w wr/\Blk wr mb 135 (mC sh f' nn z)/\(∀j,j<i->fldAt s a first c j=some (f' (o+j)))/\(∀j,j<o\/o+n<=j->f' j=f j)/\Blk wr ab 3 #[.int .i64 (p:Int)]/\Blk wr sb 9 #[.string ⟨s.toArray⟩]):=hid ⟨C,M,Q,R,D,C.blk HS.out d.out.1.2 d.out.1.1⟩;clear C M Q R D X HV;have t:Hid (∀(W:World) (q:Nat) (x:Option Nat),q<=s.length->x=none->fldAt s a first c i=x->i<n->KM mb ab wr W->Blk W mb 135 (mC sh f' nn z)->Blk W ab 3 #[.int .i64 (q:Int)]->FldPost s a first c o n mb ab sh f nn z w (.returned (.bool false)) W):=hid (fun W q x hq hx ah T K I H=>⟨m.out.1.trans K,f',I,.inr ⟨rfl,⟨i,T,ah.trans hx⟩,q,hq,H⟩⟩);have ac:Hid (∀(W:World) (v:Nat),fldAt s a first c i=some v->KM mb ab wr W->Blk W mb 135 (mC sh f' nn z)->Blk W ab 3 #[.int .i64 (posAt a first (i+1):Int)]->i<n->posAt a first (i+1)<=s.length->∃i':Nat,i'<=n/\Value.int .i64 ((i:Int)+1)=.int .i64 (i':Int)/\Hid (∃f'':Nat->Nat,KM mb ab w (W.setCell ⟨mb,1+o+i,none⟩ (.int .i64 (v:Int)))/\Blk (W.setCell ⟨mb,1+o+i,none⟩ (.int .i64 (v:Int))) mb 135 (mC sh f'' nn z)/\(∀j,j<i'->fldAt s a first c j=some (f'' (o+j)))/\(∀j,j<o\/o+n<=j->f'' j=f j)/\Blk (W.setCell ⟨mb,1+o+i,none⟩ (.int .i64 (v:Int))) ab 3 #[.int .i64 (posAt a first i':Int)]/\posAt a first i'<=s.length)):=hid (fun W v y K I H T u=>by
   refine⟨i+1,by omega,rfl,hid ⟨fset f' (o+i) v,m.out.1.trans (K.trans (KM.ofM (Kept1.set _ _))),?_,?_,?_,?_,u⟩⟩
   ·have:=I.set_ (1+o+i) (.int .i64 (v:Int));rw[show 1+o+i=1+(o+i)from by omega]at this ⊢;rwa[zxs (by omega)]at this
   ·intro j hj;by_cases e:j=i
    ·subst e;rw[y];simp[fset]
    ·rw[m.out.2.2.1 j (by omega)];simp[fset,e]
   ·intro j hj;rw[<-m.out.2.2.2.1 j hj];unfold fset;rw[if_neg (by omega)]
   ·exact H.far d.out.2.2.symm _)
  by_cases hlt:i<n
  ·have L:(i:Int)<(n:Int):=by omega
   by_cases h0:i=0
   ·have af:(i:Int)=0:=by omega
    have ae:¬(0:Int)<(i:Int):=by omega
    subst h0;go_wp2_with fail;refine(V.out _ p first hfirst u m.out.2.2.2.2.1 m.out.2.2.2.2.2).mono ?_;rintro e B ⟨h,⟨v,y,rfl,l⟩|⟨y,rfl,p2,hp2,l⟩⟩
    ·have r:=h.blk m.out.2.1 d.out.2.2;have qm:B.cell? ⟨mb,1+o,none⟩=some (.int .i64 (f' o:Int)):=by rw[r.cell];exact zuc (i:=o) (by omega)
     have ag:∀j,B.frozen? ⟨mb,j,none⟩=false:=r.frozen;have F:Hid (fldAt s a first c 0=some v/\Blk B ab 3 #[.int .i64 (posAt a first 1:Int)]/\posAt a first 1<=s.length):=hid (by
      have J:p=a:=by rw[<-G.out];rfl
      subst J;rw[zpj];exact⟨by simpa[fldAt]using y,l,(zcr y (by omega)).2.2⟩)
     have E:=hid (And.intro h r);clear h y l r;go_wp2;go_roundw
     case rel=>
      obtain⟨i',g1,g2,g3⟩:=ac.out B v F.out.1 (KM.ofA E.out.1) E.out.2 F.out.2.1 hlt F.out.2.2;exact⟨i',g1,by simpa using g2,g3⟩
     case measure=>simp[intOf];omega
    ·have F:Hid (FldPost s a first c o n mb ab sh f nn z w (.returned (.bool false)) B):=hid (t.out B p2 _ hp2 rfl (by
      have J:p=a:=by rw[<-G.out];rfl
      subst J;simpa[fldAt]using y) hlt (KM.ofA h) (h.blk m.out.2.1 d.out.2.2) l)
     clear h y l;go_wp2;go_ret;exact F.out
   ·have af:¬(i:Int)=0:=by omega
    have ae:(0:Int)<(i:Int):=by omega
    by_cases hps:p<s.length
    ·have ad:¬(s.length:Int)<=(p:Int):=by omega
     obtain⟨b,hb⟩:∃b:Nat,(s[p]'hps).toNat=b:=⟨_,rfl⟩
     have hbv:(((⟨s.toArray⟩:ByteArray)[p]'(by simpa[ByteArray.size]using hps)).toNat:Int)=(b:Int):=by rw[<-hb];rfl
     have hbl:b<256:=by rw[<-hb];exact(s[p]'hps).toNat_lt
     have HB:=hid hb;clear hb;by_cases hbc:b=c
     ·have Y:(b:Int)=(c:Int):=by omega
      go_wp2_with fail;refine(V.out _ (p+1) 2 (by omega) (by omega) (m.out.2.2.2.2.1.set_ 0 _) (m.out.2.2.2.2.2.far d.out.1.1 _)).mono ?_;rintro e B ⟨h,⟨v,y,rfl,l⟩|⟨y,rfl,p2,hp2,l⟩⟩
      ·have A:=(Kept1.set (g:=ab) (w:=wr) 0 (.int .i64 ((p+1:Nat):Int))).trans h;have r:=A.blk m.out.2.1 d.out.2.2;have qm:B.cell? ⟨mb,1+o+i,none⟩=some (.int .i64 (f' (o+i):Int)):=by rw[r.cell,show 1+o+i=1+(o+i)from by omega];exact zuc (by omega)
       have ag:∀j,B.frozen? ⟨mb,j,none⟩=false:=r.frozen;have F:Hid (fldAt s a first c i=some v/\Blk B ab 3 #[.int .i64 (posAt a first (i+1):Int)]/\posAt a first (i+1)<=s.length):=hid (by
        rw[zpi (by omega),G.out];refine⟨?_,l,(zcr y (by omega)).2.2⟩;unfold fldAt;rw[if_neg h0,G.out,if_pos (zkw hps HB.out hbc)];exact y)
       have E:=hid (And.intro A r);clear h A y l r;go_wp2;go_roundw
       case rel=>
        exact ac.out B v F.out.1 (KM.ofA E.out.1) E.out.2 F.out.2.1 hlt F.out.2.2
       case measure=>simp[intOf];omega
      ·have A:=(Kept1.set (g:=ab) (w:=wr) 0 (.int .i64 ((p+1:Nat):Int))).trans h;have F:Hid (FldPost s a first c o n mb ab sh f nn z w (.returned (.bool false)) B):=hid (t.out B p2 _ hp2 rfl (by
        unfold fldAt;rw[if_neg h0,G.out,if_pos (zkw hps HB.out hbc)];exact y) hlt (KM.ofA A) (A.blk m.out.2.1 d.out.2.2) l)
       clear h A y l;go_wp2;go_ret;exact F.out
     ·have Y:¬(b:Int)=(c:Int):=by omega
      go_wp2;go_ret;exact t.out wr p _ u rfl (by unfold fldAt;rw[if_neg h0,G.out,zvp hps HB.out hc hbc];rfl) hlt (KM.refl _ _ _) m.out.2.1 m.out.2.2.2.2.1
    ·have ad:(s.length:Int)<=(p:Int):=by omega
     go_wp2;go_ret;exact t.out wr p _ u rfl (by unfold fldAt;rw[if_neg h0,G.out,zgy (by omega)];rfl) hlt (KM.refl _ _ _) m.out.2.1 m.out.2.2.2.2.1
  ·obtain rfl:i=n:=by omega
   have L:¬(i:Int)<(i:Int):=by omega
   clear hlt;go_wp2;go_ret;exact⟨m.out.1,f',m.out.2.1,.inl ⟨rfl,m.out.2.2.1,m.out.2.2.2.1,by rw[G.out];exact m.out.2.2.2.2.1,by rw[G.out];exact u⟩⟩
def mZ:Array Value:=#[.int .i64 0,.int .i64 0,.int .i64 0,.int .i64 0,.int .i64 0,.int .i64 0,.int .i64 0,.int .i64 0,.int .i64 0,.int .i64 0,.int .u8 0]
structure RMem (s:Gr.Str) (w:World) (sb rb mb ab fb:Nat) (sh:Nat) (f:Nat->Nat) (nn z p:Nat) (wx:World):Prop where
 b:Below w.heap.size w wx
 n:w.heap.size<=rb
 nm:w.heap.size<=mb
 na:w.heap.size<=ab
 mr:mb≠rb
 s:Blk wx sb 9 #[.string ⟨s.toArray⟩]
 r:Blk wx rb 135 mZ
 m:Blk wx mb 135 (mC sh f nn z)
 a:Blk wx ab 3 #[.int .i64 (p:Int)]
 f:Blk wx fb 170 #[.func (.func 124) #[] #[.pointer (some ⟨ab,0,none⟩),.pointer (some ⟨sb,0,none⟩)]]
theorem RMem.up {s:Gr.Str} {w:World} {sb rb mb ab fb sh:Nat} {f:Nat->Nat} {nn z p:Nat} {wx wy:World} (h:RMem s w sb rb mb ab fb sh f nn z p wx) (hb:Below wx.heap.size wx wy):RMem s w sb rb mb ab fb sh f nn z p wy:=
 ⟨h.b.trans (hb.mono h.b.size),h.n,h.nm,h.na,h.mr,h.s.below hb h.s.lt,h.r.below hb h.r.lt,h.m.below hb h.m.lt,h.a.below hb h.a.lt,h.f.below hb h.f.lt⟩
theorem WL.hc2 {g:Nat} {t:TypeId} {w0:World} {cs cs':Array Value} (y:WL g t w0 cs) (e:cs=cs'):Blk y.w g t cs':=by subst e;exact y.hc
def RPost (T:Option (Array Value)) (w:World) (e:Ending) (w':World):Prop:=Below w.heap.size w w'/\∃(sh:Nat) (f:Nat->Nat) (nn z:Nat),e=.returned (.tuple #[.agg (mC sh f nn z),.bool T.isSome])/\∀x,T=some x->x=mC sh f nn z
theorem za8 {w:World} {g:Nat} {t:TypeId} {c0 c1 c2 c3 c4 c5 c6 c7 c8 c9 c10 v0 v1 v2 v3 v4 v5 v6 v7 v8 v9 v10:Value} (h:Blk w g t #[c0,c1,c2,c3,c4,c5,c6,c7,c8,c9,c10]):Blk (((((((((((w.setCell ⟨g,0,none⟩ (v0)).setCell ⟨g,1,none⟩ (v1)).setCell ⟨g,2,none⟩ (v2)).setCell ⟨g,3,none⟩ (v3)).setCell ⟨g,4,none⟩ (v4)).setCell ⟨g,5,none⟩ (v5)).setCell ⟨g,6,none⟩ (v6)).setCell ⟨g,7,none⟩ (v7)).setCell ⟨g,8,none⟩ (v8)).setCell ⟨g,9,none⟩ (v9)).setCell ⟨g,10,none⟩ (v10)) g t #[v0,v1,v2,v3,v4,v5,v6,v7,v8,v9,v10]:=by
 have a:=(((((((((((h.set_ 0 v0).set_ 1 v1).set_ 2 v2).set_ 3 v3).set_ 4 v4).set_ 5 v5).set_ 6 v6).set_ 7 v7).set_ 8 v8).set_ 9 v9).set_ 10 v10)
 simp only[List.setIfInBounds_toArray,List.set_cons_zero,List.set_cons_succ]at a;exact a
theorem kb11 {w0 w:World} {g:Nat} (h:KB g w0 w) {v0 v1 v2 v3 v4 v5 v6 v7 v8 v9 v10:Value}:KB g w0 (((((((((((w.setCell ⟨g,0,none⟩ (v0)).setCell ⟨g,1,none⟩ (v1)).setCell ⟨g,2,none⟩ (v2)).setCell ⟨g,3,none⟩ (v3)).setCell ⟨g,4,none⟩ (v4)).setCell ⟨g,5,none⟩ (v5)).setCell ⟨g,6,none⟩ (v6)).setCell ⟨g,7,none⟩ (v7)).setCell ⟨g,8,none⟩ (v8)).setCell ⟨g,9,none⟩ (v9)).setCell ⟨g,10,none⟩ (v10)):=
 (((((((((((h.set 0 _).set 1 _).set 2 _).set 3 _).set 4 _).set 5 _).set 6 _).set 7 _).set 8 _).set 9 _).set 10 _)
theorem zck {w0 w:World} {g B:Nat} (h:Below B w0 w) (hB:B<=g) {v0 v1 v2 v3 v4 v5 v6 v7 v8 v9 v10:Value}:Below B w0 (((((((((((w.setCell ⟨g,0,none⟩ (v0)).setCell ⟨g,1,none⟩ (v1)).setCell ⟨g,2,none⟩ (v2)).setCell ⟨g,3,none⟩ (v3)).setCell ⟨g,4,none⟩ (v4)).setCell ⟨g,5,none⟩ (v5)).setCell ⟨g,6,none⟩ (v6)).setCell ⟨g,7,none⟩ (v7)).setCell ⟨g,8,none⟩ (v8)).setCell ⟨g,9,none⟩ (v9)).setCell ⟨g,10,none⟩ (v10)):=
 (((((((((((h.setCell (p:=⟨g,0,none⟩) hB _).setCell (p:=⟨g,1,none⟩) hB _).setCell (p:=⟨g,2,none⟩) hB _).setCell (p:=⟨g,3,none⟩) hB _).setCell (p:=⟨g,4,none⟩) hB _).setCell (p:=⟨g,5,none⟩) hB _).setCell (p:=⟨g,6,none⟩) hB _).setCell (p:=⟨g,7,none⟩) hB _).setCell (p:=⟨g,8,none⟩) hB _).setCell (p:=⟨g,9,none⟩) hB _).setCell (p:=⟨g,10,none⟩) hB _)
theorem zxt (s:Gr.Str) (_hl:s.length<=1073741823) (w wx:World) (sb rb mb ab fb sh:Nat) (f:Nat->Nat) (nn z p:Nat) (T:Option (Array Value)) (HM:Hid (RMem s w sb rb mb ab fb sh f nn z p wx)) (HT:Hid (T=if p=s.length then some (mC sh f nn z)else none)) {u3 u8 u9 u10 u11 u12 u13 u14 u15 u16 u17 u18 u19 u20 u21 u22 u23 u24 u25 u26 u27 u28 u29 u30 u31 u32 u33 u34 u35 u36 u37 u38 u39 u40 u41 u42 u43 u44 u45 u46 u47 u48 u49 u50 u51 u52 u53 u54 u55 u56 u57 u58 u59 u60 u61 u62 u63 u64 u65 u66 u67 u68 u69 u70 u71 u72 u73 u74 u75 u76 u77 u78 u79 u80 u81 u82 u83 u84 u85 u86 u87 u88 u89 u90 u91 u92 u93 u94 u95 u96 u97 u98 u99 u100 u101 u102 u103 u104 u105 u106 u107 u108 u109 u110 u111 u112 u113 u114 u115 u116 u117 u118 u119 u120 u121 u122 u123 u124 u125 u126 u127 u128 u129 u130 u131 u132 u133 u134 u135 u136 u137 u138 u139 u140 u141 u142 u143 u144 u145 u146 u147 u148 u149 u150 u151 u152 u153 u154:Value}:
 Code.wp prog (tl 10 (f92.body.getD .skip)) (bodyPost prog f92 (RPost T w)) {tmps:=List.toArray (.string ⟨s.toArray⟩::.pointer (some ⟨sb,0,none⟩)::.pointer (some ⟨rb,0,none⟩)::u3::.pointer (some ⟨mb,0,none⟩)::.pointer (some ⟨ab,0,none⟩)::.pointer (some ⟨fb,0,none⟩)::.func (.func 125) #[] #[.pointer (some ⟨ab,0,none⟩),.pointer (some ⟨sb,0,none⟩),.pointer (some ⟨fb,0,none⟩)]::u8::u9::u10::u11::u12::u13::u14::u15::u16::u17::u18::u19::u20::u21::u22::u23::u24::u25::u26::u27::u28::u29::u30::u31::u32::u33::u34::u35::u36::u37::u38::u39::u40::u41::u42::u43::u44::u45::u46::u47::u48::u49::u50::u51::u52::u53::u54::u55::u56::u57::u58::u59::u60::u61::u62::u63::u64::u65::u66::u67::u68::u69::u70::u71::u72::u73::u74::u75::u76::u77::u78::u79::u80::u81::u82::u83::u84::u85::u86::u87::u88::u89::u90::u91::u92::u93::u94::u95::u96::u97::u98::u99::u100::u101::u102::u103::u104::u105::u106::u107::u108::u109::u110::u111::u112::u113::u114::u115::u116::u117::u118::u119::u120::u121::u122::u123::u124::u125::u126::u127::u128::u129::u130::u131::u132::u133::u134::u135::u136::u137::u138::u139::u140::u141::u142::u143::u144::u145::u146::u147::u148::u149::u150::u151::u152::u153::u154::[]),defers:=[]} wx:=by
 generalize hc0:tl 10 (f92.body.getD .skip)=c0;simp only[tl,f92,Option.getD_some]at hc0;subst hc0;obtain⟨q,i⟩:=ex (decide ((p:Int)=(s.length:Int)))
 have hokb:((p:Int)==(s.length:Int))=q:=by rw[<-i];rfl
 have o:Hid (T=if q=true then some (mC sh f nn z)else none):=hid (by
  rw[HT.out,<-i];by_cases h:p=s.length
  ·rw[if_pos h,if_pos (by simp[h])]
  ·rw[if_neg h,if_neg (by simp;omega)])
 clear i HT;go_upto_region 36 with fail;obtain⟨Z,A⟩:∃Z:Bool->Array Value,Z=fun b=>if b=true then mC sh f nn z else mZ:=⟨_,rfl⟩
 have d:Hid (Z false=mZ/\Z true=mC sh f nn z):=hid (by rw[A];exact⟨rfl,rfl⟩);clear A;have l:Hid (∃y:WL rb 135 wx (Z false),{wx with drawn:=wx.drawn+1}=y.w):=hid ⟨⟨wx.drewN 1,(KB.refl _ _).drewN 1,by rw[d.out.1];exact HM.out.r.drewN 1⟩,rfl⟩;have g:Hid (∀y:WL rb 135 wx (Z false),∃z':WL rb 135 wx (Z true),(((((((((((y.w.setCell ⟨rb,0,none⟩ (.int .i64 (sh:Int))).setCell ⟨rb,1,none⟩ (.int .i64 (f 0:Int))).setCell ⟨rb,2,none⟩ (.int .i64 (f 1:Int))).setCell ⟨rb,3,none⟩ (.int .i64 (f 2:Int))).setCell ⟨rb,4,none⟩ (.int .i64 (f 3:Int))).setCell ⟨rb,5,none⟩ (.int .i64 (f 4:Int))).setCell ⟨rb,6,none⟩ (.int .i64 (f 5:Int))).setCell ⟨rb,7,none⟩ (.int .i64 (f 6:Int))).setCell ⟨rb,8,none⟩ (.int .i64 (f 7:Int))).setCell ⟨rb,9,none⟩ (.int .i64 (nn:Int))).setCell ⟨rb,10,none⟩ (.int .u8 (z:Int)))=z'.w):=hid (fun y=>⟨⟨_,kb11 y.h,by
  have B:=WL.hc2 y d.out.1;rw[d.out.2];exact za8 B⟩,rfl⟩)
 have t:Hid (∀b,Nonempty (WL rb 135 wx (Z b))):=hid (fun b=>by
  obtain⟨y,_⟩:=l.out;cases b with
  |false=>exact⟨y⟩
  |true=>obtain⟨z',_⟩:=g.out y;exact⟨z'⟩)
 have c:Hid (∀b,∀y:WL rb 135 wx (Z b),Blk y.w mb 135 (mC sh f nn z)/\Blk y.w ab 3 #[.int .i64 (p:Int)]/\Blk y.w sb 9 #[.string ⟨s.toArray⟩]):=hid (fun b y=>⟨y.h.blk HM.out.m HM.out.mr,y.h.blk HM.out.a (HM.out.a.ne_ HM.out.r (by decide)),y.h.blk HM.out.s (HM.out.s.ne_ HM.out.r (by decide))⟩);refine za7 (aF:=?aF) 5 (by kernel_rfl) _ rfl rfl rfl rfl rfl (by kernel_rfl) (by kernel_rfl) (by kernel_rfl) (by kernel_rfl) (by kernel_rfl) (fun b W=>∃y:WL rb 135 wx (Z b),W=y.w) l.out (fun b=>?h1) ?h2 ?h3
 case h1=>
  have q0:∀y:WL rb 135 wx (Z b),y.w.cell? ⟨mb,0,none⟩=some (.int .i64 (sh:Int)):=fun y=>(c.out b y).1.cell 0
  have q1:∀y:WL rb 135 wx (Z b),y.w.cell? ⟨mb,1,none⟩=some (.int .i64 (f 0:Int)):=fun y=>(c.out b y).1.cell 1
  have q2:∀y:WL rb 135 wx (Z b),y.w.cell? ⟨mb,2,none⟩=some (.int .i64 (f 1:Int)):=fun y=>(c.out b y).1.cell 2
  have q3:∀y:WL rb 135 wx (Z b),y.w.cell? ⟨mb,3,none⟩=some (.int .i64 (f 2:Int)):=fun y=>(c.out b y).1.cell 3
  have q4:∀y:WL rb 135 wx (Z b),y.w.cell? ⟨mb,4,none⟩=some (.int .i64 (f 3:Int)):=fun y=>(c.out b y).1.cell 4
  have q5:∀y:WL rb 135 wx (Z b),y.w.cell? ⟨mb,5,none⟩=some (.int .i64 (f 4:Int)):=fun y=>(c.out b y).1.cell 5
  have q6:∀y:WL rb 135 wx (Z b),y.w.cell? ⟨mb,6,none⟩=some (.int .i64 (f 5:Int)):=fun y=>(c.out b y).1.cell 6
  have q7:∀y:WL rb 135 wx (Z b),y.w.cell? ⟨mb,7,none⟩=some (.int .i64 (f 6:Int)):=fun y=>(c.out b y).1.cell 7
  have q8:∀y:WL rb 135 wx (Z b),y.w.cell? ⟨mb,8,none⟩=some (.int .i64 (f 7:Int)):=fun y=>(c.out b y).1.cell 8
  have q9:∀y:WL rb 135 wx (Z b),y.w.cell? ⟨mb,9,none⟩=some (.int .i64 (nn:Int)):=fun y=>(c.out b y).1.cell 9
  have q10:∀y:WL rb 135 wx (Z b),y.w.cell? ⟨mb,10,none⟩=some (.int .u8 (z:Int)):=fun y=>(c.out b y).1.cell 10
  have hne:=t.out b;have qA:∀y:WL rb 135 wx (Z b),y.w.cell? ⟨ab,0,none⟩=some (.int .i64 (p:Int)):=fun y=>(c.out b y).2.1.cell 0
  have qS:∀y:WL rb 135 wx (Z b),y.w.cell? ⟨sb,0,none⟩=some (.string ⟨s.toArray⟩):=fun y=>(c.out b y).2.2.cell 0
  simp only[List.set_cons_succ,List.set_cons_zero,nopOf,List.getElem_toArray,List.getElem_cons_succ,List.getElem_cons_zero]
  iterate 7 (go_big_quiet_step (fail))
  refine wpQuiet_nil ?_;rfl
 case h2=>
  rintro _ ⟨y,rfl⟩;obtain⟨z',C⟩:=g.out y;have e:Blk y.w rb 135 #[.int .i64 0,.int .i64 0,.int .i64 0,.int .i64 0,.int .i64 0,.int .i64 0,.int .i64 0,.int .i64 0,.int .i64 0,.int .i64 0,.int .u8 0]:=WL.hc2 y d.out.1;have f0:∀j,y.w.frozen? ⟨rb,j,none⟩=false:=e.frozen;obtain⟨c0,c1,c2,c3,c4,c5,c6,c7,c8,c9,c10⟩:=zaf e;refine⟨z'.w,?_,z',rfl⟩;rw[<-C];simp only[List.getElem_toArray,List.getElem_cons_succ,List.getElem_cons_zero];go_simp
 case h3=>
 rintro _ ⟨y,rfl⟩;have e:Blk y.w rb 135 (mC sh f nn z):=WL.hc2 y d.out.2;obtain⟨e0,e1,e2,e3,e4,e5,e6,e7,e8,e9,e10⟩:=zaf e;go_wp2_with fail;have u:Below w.heap.size w y.w:=HM.out.b.trans (y.h.below HM.out.n HM.out.b.size);refine bodyPost_ret (v:=.tuple #[.agg #[.int .i64 (sh:Int),.int .i64 (f 0:Int),.int .i64 (f 1:Int),.int .i64 (f 2:Int),.int .i64 (f 3:Int),.int .i64 (f 4:Int),.int .i64 (f 5:Int),.int .i64 (f 6:Int),.int .i64 (f 7:Int),.int .i64 (nn:Int),.int .u8 (z:Int)],.bool q]) (by rw[results_cell_tmp rfl];go_simp) rfl ?_;unfold RPost;refine⟨u,sh,f,nn,z,?_,fun x k=>?_⟩
 ·rw[o.out];cases q<;>rfl
 ·rw[o.out]at k;split at k
  ·injection k with k;exact k.symm
  ·cases k
theorem fld0 (s:Gr.Str) (a first c:Nat):fldAt s a first c 0=numAt s a first:=rfl
theorem fld1 (s:Gr.Str) (a first c:Nat):fldAt s a first c 1=if isAt s (a+first) (UInt8.ofNat c)=true then numAt s (a+first+1) 2 else none:=by
 unfold fldAt posAt;simp
theorem fld2 (s:Gr.Str) (a first c:Nat):fldAt s a first c 2=if isAt s (a+first+3) (UInt8.ofNat c)=true then numAt s (a+first+4) 2 else none:=by
 unfold fldAt posAt;simp[Nat.add_assoc]
theorem ze5 {c:Prop} [Decidable c] {o:Option Nat} {v:Nat} (h:(if c then o else none)=some v):c/\o=some v:=by
 grind
theorem ze6 {c:Prop} [Decidable c] {o:Option Nat} (h:(if c then o else none)=none):¬c\/o=none:=by
 grind
theorem zsy {s:Gr.Str} {g:Nat->Nat} (h:∀j,j<3->fldAt s 0 4 45 j=some (g (0+j))):dateAt s=some (g 0,g 1,g 2):=by
 have c:=h 0 (by omega);have a:=h 1 (by omega);have b:=h 2 (by omega);rw[fld0]at c;rw[fld1]at a;rw[fld2]at b;obtain⟨d,e⟩:=ze5 a;obtain⟨i,f⟩:=ze5 b;unfold dateAt;rw[c,show(5:Nat)=0+4+1 from rfl,show(8:Nat)=0+4+4 from rfl,e,f];show(if(isAt s (0+4) (UInt8.ofNat 45) && isAt s (0+4+3) (UInt8.ofNat 45))=true then _ else _)=_;rw[d,i];rfl
theorem zmc {s:Gr.Str} (h:∃j,j<3/\fldAt s 0 4 45 j=none):dateAt s=none:=by
 obtain⟨j,hj,h⟩:=h;unfold dateAt;have:j=0\/j=1\/j=2:=by omega
 rcases this with rfl|rfl|rfl
 ·rw[fld0]at h;rw[h]
 ·rw[fld1]at h;rcases ze6 h with h|h
  ·grind
  ·grind
 ·rw[fld2]at h;rcases ze6 h with h|h
  ·grind
  ·grind
structure ClkIs (s:Gr.Str) (a h m c:Nat):Prop where
 h:numAt s a 2=some h
 m:numAt s (a+3) 2=some m
 c:numAt s (a+6) 2=some c
 i:isAt s (a+2) 58=true
 j:isAt s (a+5) 58=true
theorem zvq {s:Gr.Str} {a:Nat} {g:Nat->Nat} (h:∀j,j<3->fldAt s a 2 58 j=some (g (3+j))):ClkIs s a (g 3) (g 4) (g 5):=by
 have d:=h 0 (by omega);have b:=h 1 (by omega);have c:=h 2 (by omega);rw[fld0]at d;rw[fld1]at b;rw[fld2]at c;obtain⟨e,f⟩:=ze5 b;obtain⟨k,i⟩:=ze5 c;exact⟨d,f,i,e,k⟩
theorem zxu {s:Gr.Str} {a:Nat} (h:∃j,j<3/\fldAt s a 2 58 j=none):clockAt s a=none:=by
 obtain⟨j,hj,h⟩:=h;unfold clockAt;have:j=0\/j=1\/j=2:=by omega
 rcases this with rfl|rfl|rfl
 ·rw[fld0]at h;rw[h]
 ·rw[fld1]at h;rcases ze6 h with h|h
  ·grind
  ·grind
 ·rw[fld2]at h;rcases ze6 h with h|h
  ·grind
  ·grind
theorem zpk {s:Gr.Str} {a h m c:Nat} (k:ClkIs s a h m c) (hd:isAt s (a+8) 46=false):clockAt s a=some ⟨h,m,c,0,a+8⟩:=by
 unfold clockAt;rw[k.h,k.m,k.c];simp only;rw[k.i,k.j,hd];rfl
theorem zvr {s:Gr.Str} {a h m c:Nat} (k:ClkIs s a h m c) (hd:isAt s (a+8) 46=true):clockAt s a=if((s.drop (a+9)).takeWhile Gr.dig).length=0\/9<((s.drop (a+9)).takeWhile Gr.dig).length then none
 else some ⟨h,m,c,Gr.val ((s.drop (a+9)).takeWhile Gr.dig)*10 ^ (9-((s.drop (a+9)).takeWhile Gr.dig).length),a+9+((s.drop (a+9)).takeWhile Gr.dig).length⟩:=by
 unfold clockAt;rw[k.h,k.m,k.c];simp only;rw[k.i,k.j,hd];rfl
theorem zbr {s:Gr.Str} {p b:Nat} (hp:p<s.length) (hb:(s[p]'hp).toNat=b) (c:UInt8):isAt s p c=decide (b=c.toNat):=by
 unfold isAt;rw[List.getElem?_eq_getElem hp,<-hb,Bool.eq_iff_iff];simp;exact⟨fun e=>by rw[e],fun e=>UInt8.toNat_inj.1 e⟩
theorem zxv {s:Gr.Str} {p:Nat} (hp:p<s.length) (hb:(s[p]'hp).toNat=90):zoneAt s p=some ⟨90,0,0,p+1⟩:=by
 unfold zoneAt;rw[if_pos (by rw[zbr hp hb];rfl)]
theorem zkx {s:Gr.Str} {p b:Nat} (hp:p<s.length) (hb:(s[p]'hp).toNat=b) (h1:b≠90) (h2:b≠43) (h3:b≠45):zoneAt s p=none:=by
 unfold zoneAt;rw[if_neg (by rw[zbr hp hb];simpa using h1)];split
 ·rw[if_neg];rw[zbr hp hb,zbr hp hb];simp[h2,h3]
 ·rfl
theorem zsz {s:Gr.Str} {p b:Nat} {g:Nat->Nat} (hp:p<s.length) (hb:(s[p]'hp).toNat=b) (h2:b=43\/b=45) (h:∀j,j<2->fldAt s (p+1) 2 58 j=some (g (6+j))):∃z:Gr.Zn,zoneAt s p=some z/\z.z.toNat=b/\z.h=g 6/\z.m=g 7/\z.stop=p+6:=by
 have c:=h 0 (by omega);have a:=h 1 (by omega);rw[fld0]at c;rw[fld1]at a;obtain⟨d,e⟩:=ze5 a;refine⟨⟨s.getD p 0,g 6,g 7,p+6⟩,?_,?_,rfl,rfl,rfl⟩
 ·unfold zoneAt;rw[if_neg (by rw[zbr hp hb];rcases h2 with rfl|rfl<;>decide),c,show p+4=p+1+2+1 from rfl,e];simp only;rw[if_pos];rw[zbr hp hb,zbr hp hb,Bool.and_eq_true];exact⟨by rcases h2 with rfl|rfl<;>decide,d⟩
 ·grind
theorem zmd {s:Gr.Str} {p b:Nat} (hp:p<s.length) (hb:(s[p]'hp).toNat=b) (h2:b≠90) (h:∃j,j<2/\fldAt s (p+1) 2 58 j=none):zoneAt s p=none:=by
 obtain⟨j,hj,h⟩:=h;unfold zoneAt;rw[if_neg (by rw[zbr hp hb];simpa using h2)];have:j=0\/j=1:=by omega
 rcases this with rfl|rfl
 ·rw[fld0]at h;rw[h]
 ·rw[fld1]at h;rcases ze6 h with h|h
  ·grind
  ·grind
end Go.Proofs.YtoigpackhninoaaGreatDoor

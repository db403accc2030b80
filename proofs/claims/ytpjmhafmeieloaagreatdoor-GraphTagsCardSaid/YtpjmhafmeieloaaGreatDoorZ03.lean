import Derived.Test.YtpjmhafmeieloaaGreatDoorZ02
namespace Go.Proofs.YtpjmhafmeieloaaGreatDoor
open Gr
open _root_.Go.Proofs.Tryz
open _root_.Go.Lib (hid)
set_option maxRecDepth 100000
set_option maxHeartbeats 16000000
open Go.RowKit
theorem zci (l:List Nat) (x:Nat):(cstep l x).length=l.length:=by unfold cstep;simp
theorem zb2 (L l:List Nat):(L.foldl cstep l).length=l.length:=by
 induction L generalizing l with
 |nil=>rfl
 |cons x L ih=>rw[List.foldl_cons,ih,zci]
theorem zen (l:List Nat) (x y:Nat):(cstep l x).getD y 0<=l.getD y 0+1:=by
 unfold cstep;by_cases h:x=y
 .subst h;by_cases hx:x<l.length
  .rw[za1 _ _ _ _ hx];exact Nat.le_refl _
  .rw[List.set_eq_of_length_le (by omega)];omega
 .rw[Gr.getD_set_ne _ _ _ _ _ h];omega
theorem zdk (L l:List Nat) (y:Nat):(L.foldl cstep l).getD y 0<=l.getD y 0+L.length:=by
 induction L generalizing l with
 |nil=>simp
 |cons x L ih=>
  rw[List.foldl_cons,List.length_cons];have:=ih (cstep l x);have:=zen l x y;omega
theorem zdl (ns:List Gr.Nd) (j:Nat) (h:j<ns.length):Gr.refs (ns.take (j+1))=Gr.refs (ns.take j)++(ns[j].keys++ns[j].items):=by
 unfold Gr.refs;rw[List.take_succ_eq_append_getElem h,List.flatMap_append];simp
theorem zvk (ns:List Gr.Nd) (j:Nat):(Gr.refs (ns.take j)).length<=(Gr.refs ns).length:=by
 have:Gr.refs ns=Gr.refs (ns.take j)++Gr.refs (ns.drop j):=by
  unfold Gr.refs;rw[<-List.flatMap_append,List.take_append_drop]
 rw[this,List.length_append];omega
def ncells (n:Gr.Nd) (k i:SV):Array Value:=#[.int .i64 n.kind,.string ⟨n.text.toArray⟩,.bool n.ord,k.v,i.v]
theorem zl4 (A:Option Addr) (c:Nat) (root:Nat) (vs:List NV) (ns:List Gr.Nd) (hr:Refs ns) (hl:ns.length<=1073741823) (hks:∀n∈ns,n.keys.length<=1073741823/\n.items.length<=1073741823) (hrl:(Gr.refs ns).length<=1125899906842624)
 (w:World) (h:GAt w w.heap.size A vs ns) (hroot:root<ns.length):
 Calls prog 27 #[.agg #[.slice A ns.length c,.int .i64 root]] w fun e w'=>∃ob,e=.returned (.slice (some ⟨ob,0,none⟩) ns.length ns.length)/\w.heap.size<=ob/\Below w.heap.size w w'/\Blk w' ob 3 (icells (counts ns root)):=by
 have H:=hid h;have hmk:=fun W=>zb0 ns.length (by omega) W
 have al:(root:Int)<(ns.length:Int):=by omega
 clear h;go_enter func27,ntmps27;go_upto_region 2 with fail;obtain⟨T,u⟩:=ex ((w.alloc (.cells #[.slice A ns.length c,.int .i64 root] 24)).alloc (.cells (icells (List.replicate ns.length 0)) 3))
 have l2:Below w.heap.size w T:=by rw[<-u];exact((Below.refl _ _).alloc (Nat.le_refl _) _).alloc (by simp) _
 have bg:Blk T w.heap.size 24 #[.slice A ns.length c,.int .i64 root]:=by rw[<-u];exact(Blk.new _ _ _).alloc _
 have bo:Blk T (w.heap.size+1) 3 (icells (List.replicate ns.length 0)):=by
  rw[<-u];have:=Blk.new (w.alloc (.cells #[.slice A ns.length c,.int .i64 root] 24)) 3 (icells (List.replicate ns.length 0));rw[World.size_alloc]at this;exact this
 have g1:T.cell? ⟨w.heap.size,1,none⟩=some (.int .i64 root):=bg.cell 1;have z0:T.cell? ⟨w.heap.size+1,root,none⟩=some (.int .i64 0):=by
  rw[bo.cell,zad (by simpa using hroot)];simp[List.getD_eq_getElem?_getD,hroot]
 have zf:∀i,T.frozen? ⟨w.heap.size+1,i,none⟩=false:=bo.frozen;rw[u];clear u;go_upto_region 3 with fail;obtain⟨g,F⟩:=ex (cstep (List.replicate ns.length 0) root)
 obtain⟨X,y⟩:=ex (T.setCell ⟨w.heap.size+1,root,none⟩ (.int .i64 1))
 have b3:Blk X (w.heap.size+1) 3 (icells g):=by
  rw[<-y,<-F];unfold cstep;have e:(List.replicate ns.length 0).getD root 0=0:=by simp[List.getD_eq_getElem?_getD,hroot]
  rw[e,<-zaw];exact bo.set_ root _
 have ac:Blk X w.heap.size 24 #[.slice A ns.length c,.int .i64 root]:=by rw[<-y];exact bg.far (by simp) _
 have g0:X.cell? ⟨w.heap.size,0,none⟩=some (.slice A ns.length c):=ac.cell 0;have L3:Hid (Below w.heap.size w X):=hid (by rw[<-y];exact l2.setCell (by simp) _);have E:Hid (g.length=ns.length/\∀x,g.getD x 0<=1):=hid (by
  rw[<-F];refine⟨by rw[zci];simp,fun x=>?_⟩;have:=zen (List.replicate ns.length 0) root x;have e:(List.replicate ns.length 0).getD x 0=0:=by simp[List.getD_eq_getElem?_getD,List.getElem?_replicate];split<;>rfl
  omega)
 have aa:Hid (counts ns root=(Gr.refs ns).foldl cstep g):=hid (by rw[<-F];rfl);have ae:=hid b3;rw[y];obtain⟨ob,af⟩:=ex (w.heap.size+1)
 rw[af]at ae ⊢;have l:Hid (w.heap.size<=ob/\w.heap.size<=X.heap.size):=hid ⟨by omega,L3.out.size⟩;clear y l2 bg bo g1 z0 zf b3 ac af F;go_upto_region 4 with fail;clear g0 al;go_loopw [24] (fun s24 wr=>∃j:Nat,j<=ns.length/\s24=.int .i64 j/\Hid (KB ob X wr/\Blk wr ob 3 (icells ((Gr.refs (ns.take j)).foldl cstep g)))) (fun s24 _=>ns.length-(intOf s24).toNat)
 case atStart=>exact⟨0,by omega,rfl,hid ⟨KB.refl _ _,by simpa[Gr.refs]using ae.out⟩⟩
 case round=>
  obtain⟨j,hj,rfl,O⟩:=hrel;obtain⟨f,ar⟩:∃f,f=wr:=⟨_,rfl⟩
  subst ar;by_cases hlt:j<ns.length
  .have ab:(j:Int)<(ns.length:Int):=by omega
   obtain⟨ad,k,i,rfl,t⟩:=(H.out.below (L3.out.trans (O.out.1.below l.out.1 l.out.2))).node hlt;obtain⟨ka,kn,kc⟩:=k;obtain⟨Y,an,ic⟩:=i;have V:ns[j]∈ns:=List.getElem_mem hlt;obtain⟨ah,ak⟩:=hks _ V;have Q:Hid (∀x∈ns[j].keys++ns[j].items,x<ns.length):=hid (hr _ V);obtain⟨R,hR⟩:=ex (Gr.refs (ns.take j))
   have aj:=hid hR;have q:Hid (Gr.refs (ns.take (j+1))=R++(ns[j].keys++ns[j].items)):=hid (by rw[zdl ns j hlt,hR]);have p:Hid (R.length+ns[j].keys.length+ns[j].items.length<=1125899906842624):=hid (by
    have Z:=zvk ns (j+1);rw[q.out]at Z;simp only[List.length_append]at Z;omega)
   obtain⟨n,hn⟩:=ex (ns[j])
   rw[hn]at t Q q p ah ak;obtain rfl:kn=n.keys.length:=t.kn;obtain rfl:an=n.items.length:=t.inn;have x0:=t.c0;have x1:=t.c1;have x2:=t.c2;have x3:=t.c3;have x4:=t.c4;have av:=hid t.keys;have aq:=hid t.items;have G:Hid (w.heap.size<=ob/\w.heap.size<=f.heap.size):=hid ⟨l.out.1,Nat.le_trans l.out.2 O.out.1.size⟩;clear t V hR hn;go_upto_region 6 with fail;obtain⟨w5,B⟩:=ex (f.alloc (.cells #[.int .i64 n.kind,.string ⟨n.text.toArray⟩,.bool n.ord,.slice ka n.keys.length kc,.slice Y n.items.length ic] 36))
   have b5:Blk w5 f.heap.size 36 (ncells n ⟨ka,n.keys.length,kc⟩ ⟨Y,n.items.length,ic⟩):=by rw[<-B];exact Blk.new _ _ _
   have s3:w5.cell? ⟨f.heap.size,3,none⟩=some (.slice ka n.keys.length kc):=b5.cell 3;have s:Hid (KB ob f w5/\Blk w5 ob 3 (icells (R.foldl cstep g))/\Blk w5 f.heap.size 36 (ncells n ⟨ka,n.keys.length,kc⟩ ⟨Y,n.items.length,ic⟩)):=hid ⟨by rw[<-B];exact(KB.refl _ _).alloc _,by
    have:=O.out.2;rw[aj.out]at this;rw[<-B];exact this.alloc _,b5⟩
   rw[B];obtain⟨m,C⟩:=ex (ncells n ⟨ka,n.keys.length,kc⟩ ⟨Y,n.items.length,ic⟩)
   have am:Hid (m[4]? =some (.slice Y n.items.length ic)):=hid (by rw[<-C];rfl);rw[C]at s;clear C;obtain⟨S,ag⟩:=ex f.heap.size
   rw[ag]at s s3 ⊢;clear B b5 x0 x1 x2 x3 x4 ag;go_upto_region 7 with fail;clear s3;go_loopw [31] (fun s31 wr=>∃k:Nat,k<=n.keys.length/\s31=.int .i64 k/\Hid (KB ob f wr/\Blk wr ob 3 (icells ((R++n.keys.take k).foldl cstep g))/\Blk wr S 36 m)) (fun s31 _=>n.keys.length-(intOf s31).toNat)
   case atStart=>exact⟨0,by omega,rfl,hid ⟨s.out.1,by simpa using s.out.2.1,s.out.2.2⟩⟩
   case round=>
    obtain⟨k,hk,rfl,b⟩:=hrel;by_cases hlk:k<n.keys.length
    .have o:(k:Int)<(n.keys.length:Int):=by omega
     obtain⟨x,I⟩:=ex (n.keys[k])
     obtain⟨au,rfl,_,y0⟩:=zae (av.out.below (b.out.1.below G.out.1 G.out.2)) hlk;rw[I]at y0;have ao:x<ns.length:=Q.out x (by simp[<-I]);obtain⟨d,a⟩:=ex ((R++n.keys.take k).foldl cstep g)
     have U:d.length=ns.length:=by rw[<-a,zb2,E.out.1]
     have M:d.getD x 0<=1125899906842625:=by
      rw[<-a];have Z:=zdk (R++n.keys.take k) g x;have h2:=E.out.2 x;have h3:=p.out;rw[List.length_append,List.length_take]at Z;omega
     have ai:k<=1073741823:=by omega
     have r:=b.out.2.1;rw[a]at r;obtain⟨v,J⟩:=ex (d.getD x 0)
     have z0:wr.cell? ⟨ob,x,none⟩=some (.int .i64 (v:Int)):=by rw[r.cell,zad (by omega),J]
     have zf:∀i,wr.frozen? ⟨ob,i,none⟩=false:=r.frozen;have ap:(x:Int)<(ns.length:Int):=by omega
     rw[J]at M;have N:Hid (KB ob f (wr.setCell ⟨ob,x,none⟩ (.int .i64 ((v:Int)+1)))/\Blk (wr.setCell ⟨ob,x,none⟩ (.int .i64 ((v:Int)+1))) ob 3 (icells ((R++n.keys.take (k+1)).foldl cstep g))/\Blk (wr.setCell ⟨ob,x,none⟩ (.int .i64 ((v:Int)+1))) S 36 m):=hid (by
      refine⟨b.out.1.set _ _,?_,b.out.2.2.far (b.out.2.2.ne_ r (by decide)) _⟩;rw[zak _ _ hlk,<-List.append_assoc,List.foldl_append,a,I];show Blk _ _ _ (icells (cstep d x));unfold cstep;rw[J,<-zaw,show(((v+1:Nat)):Int)=(v:Int)+1 from by omega];exact r.set_ x _)
     clear r a U J I b;go_wp2;go_roundw
     case rel=>exact⟨k+1,by omega,by go_num,N⟩
     case measure=>simp[intOf];omega
    .have o:¬((k:Int)<(n.keys.length:Int)):=by omega
     have z:Hid (KB ob f wr/\Blk wr ob 3 (icells ((R++n.keys).foldl cstep g))/\Blk wr S 36 m):=hid ⟨b.out.1,by have:=b.out.2.1;rw[show k=n.keys.length from by omega,List.take_length]at this;exact this,b.out.2.2⟩;clear b s;obtain⟨P,D⟩:=ex (R++n.keys)
     have s:=hid z.out;rw[D]at s;have L:Hid (P.length+n.items.length<=1125899906842624):=hid (by rw[<-D,List.length_append];have:=p.out;omega);have K:Hid (Gr.refs (ns.take (j+1))=P++n.items):=hid (by rw[q.out,<-D,List.append_assoc]);clear p q D z hk hlk;have q:=K;have p:=L;clear L K;have s4:wr.cell? ⟨S,4,none⟩=some (.slice Y n.items.length ic):=(s.out.2.2.cell 4).trans am.out;go_upto_region 12 with fail;clear s4 o;go_loopw [45] (fun s45 wr=>∃k:Nat,k<=n.items.length/\s45=.int .i64 k/\Hid (KB ob f wr/\Blk wr ob 3 (icells ((P++n.items.take k).foldl cstep g))/\Blk wr S 36 m)) (fun s45 _=>n.items.length-(intOf s45).toNat)
     case atStart=>exact⟨0,by omega,rfl,hid ⟨s.out.1,by simpa using s.out.2.1,s.out.2.2⟩⟩
     case round=>
      obtain⟨k,hk,rfl,b⟩:=hrel;by_cases hlk:k<n.items.length
      .have o:(k:Int)<(n.items.length:Int):=by omega
       obtain⟨x,I⟩:=ex (n.items[k])
       obtain⟨au,rfl,_,y0⟩:=zae (aq.out.below (b.out.1.below G.out.1 G.out.2)) hlk;rw[I]at y0;have ao:x<ns.length:=Q.out x (by simp[<-I]);obtain⟨d,a⟩:=ex ((P++n.items.take k).foldl cstep g)
       have U:d.length=ns.length:=by rw[<-a,zb2,E.out.1]
       have M:d.getD x 0<=1125899906842625:=by
        rw[<-a];have Z:=zdk (P++n.items.take k) g x;have h2:=E.out.2 x;have h3:=p.out;rw[List.length_append,List.length_take]at Z;omega
       have ai:k<=1073741823:=by omega
       have r:=b.out.2.1;rw[a]at r;obtain⟨v,J⟩:=ex (d.getD x 0)
       have z0:wr.cell? ⟨ob,x,none⟩=some (.int .i64 (v:Int)):=by rw[r.cell,zad (by omega),J]
       have zf:∀i,wr.frozen? ⟨ob,i,none⟩=false:=r.frozen;have ap:(x:Int)<(ns.length:Int):=by omega
       rw[J]at M;have N:Hid (KB ob f (wr.setCell ⟨ob,x,none⟩ (.int .i64 ((v:Int)+1)))/\Blk (wr.setCell ⟨ob,x,none⟩ (.int .i64 ((v:Int)+1))) ob 3 (icells ((P++n.items.take (k+1)).foldl cstep g))/\Blk (wr.setCell ⟨ob,x,none⟩ (.int .i64 ((v:Int)+1))) S 36 m):=hid (by
        refine⟨b.out.1.set _ _,?_,b.out.2.2.far (b.out.2.2.ne_ r (by decide)) _⟩;rw[zak _ _ hlk,<-List.append_assoc,List.foldl_append,a,I];show Blk _ _ _ (icells (cstep d x));unfold cstep;rw[J,<-zaw,show(((v+1:Nat)):Int)=(v:Int)+1 from by omega];exact r.set_ x _)
       clear r a U J I b;go_wp2;go_roundw
       case rel=>exact⟨k+1,by omega,by go_num,N⟩
       case measure=>simp[intOf];omega
      .have o:¬((k:Int)<(n.items.length:Int)):=by omega
       have z:Hid (KB ob f wr/\Blk wr ob 3 (icells ((P++n.items).foldl cstep g))/\Blk wr S 36 m):=hid ⟨b.out.1,by have:=b.out.2.1;rw[show k=n.items.length from by omega,List.take_length]at this;exact this,b.out.2.2⟩;clear b s;have HE:Hid (KB ob X wr/\Blk wr ob 3 (icells ((Gr.refs (ns.take (j+1))).foldl cstep g))):=hid ⟨O.out.1.trans z.out.1,by have:=z.out.2.1;rw[q.out];exact this⟩;clear hk;go_wp2;go_roundw
       case rel=>exact⟨j+1,by omega,by go_num,HE⟩
       case measure=>simp[intOf];omega
  .have ab:¬((j:Int)<(ns.length:Int)):=by omega
   have HE:Hid (Below w.heap.size w f/\Blk f ob 3 (icells (counts ns root))):=hid ⟨L3.out.trans (O.out.1.below l.out.1 l.out.2),by
    have:=O.out.2;rw[show j=ns.length from by omega,List.take_length]at this;rw[aa.out];exact this⟩
   clear O;go_wp2;go_ret;exact⟨ob,rfl,l.out.1,HE.out⟩
theorem zh8 (ns:List Gr.Nd) (j:Nat) (h:j<ns.length):allKeys (ns.take (j+1))=allKeys (ns.take j)++ns[j].keys:=by
 unfold allKeys;rw[List.take_succ_eq_append_getElem h,List.flatMap_append];simp
theorem zji {ns:List Gr.Nd} (hr:Refs ns):∀x∈allKeys ns,x<ns.length:=by
 intro x c;obtain⟨y,b,a⟩:=List.mem_flatMap.1 c;exact hr y b x (List.mem_append_left _ a)
theorem zkw (ns:List Gr.Nd) (j:Nat):∀x∈allKeys (ns.take j),x∈allKeys ns:=by
 intro x c;obtain⟨y,b,a⟩:=List.mem_flatMap.1 c;exact List.mem_flatMap.2 ⟨y,List.mem_of_mem_take b,a⟩
theorem zh9 (n:Nat) (m:List Bool):unm n m<=n:=Nat.le_trans List.countP_le_length (by simp)
theorem ze1 {ns:List Gr.Nd} (hr:Refs ns) (L:List Nat) (m:List Bool) (hL:∀x∈L,x<ns.length) (hm:m.length=ns.length):(L.foldl (dvisit (Gr.succ ns) ns.length) m).length=ns.length:=
 (zev (zbq hr.succ ns.length) L m hL hm (zh9 _ _)).len
theorem zl5 (A:Option Addr) (c:Nat) (root:Int) (vs:List NV) (ns:List Gr.Nd) (hr:Refs ns) (hl:ns.length<=1073741823) (hks:∀n∈ns,n.keys.length<=1073741823/\n.items.length<=1073741823)
 (w:World) (h:GAt w w.heap.size A vs ns):
 Calls prog 28 #[.agg #[.slice A ns.length c,.int .i64 root]] w fun e w'=>∃ob,e=.returned (.slice (some ⟨ob,0,none⟩) ns.length ns.length)/\w.heap.size<=ob/\Below w.heap.size w w'/\Blk w' ob 4 (bcells (inKeys ns)):=by
 have H:=hid h;have hmk:=fun W=>zb1 ns.length (by omega) W
 clear h;go_enter func28,ntmps28;go_upto_region 2 with fail;obtain⟨B,b⟩:=ex ((w.alloc (.cells #[.slice A ns.length c,.int .i64 root] 24)).alloc (.cells (bcells (List.replicate ns.length false)) 4))
 have l3:Below w.heap.size w B:=by rw[<-b];exact((Below.refl _ _).alloc (Nat.le_refl _) _).alloc (by simp) _
 have T:Blk B w.heap.size 24 #[.slice A ns.length c,.int .i64 root]:=by rw[<-b];exact(Blk.new _ _ _).alloc _
 obtain⟨s,f⟩:=ex (List.replicate ns.length false)
 rw[f]at b;have bo:Blk B (w.heap.size+1) 4 (bcells s):=by
  rw[<-b];have:=Blk.new (w.alloc (.cells #[.slice A ns.length c,.int .i64 root] 24)) 4 (bcells s);rw[World.size_alloc]at this;exact this
 have g0:B.cell? ⟨w.heap.size,0,none⟩=some (.slice A ns.length c):=T.cell 0;have Z:Hid (s.length=ns.length):=hid (by rw[<-f];simp);have C:Hid (inKeys ns=(allKeys ns).foldl (dvisit (Gr.succ ns) ns.length) s):=hid (by rw[<-f];rfl);have Y:=hid l3;have K:=hid bo;have D:=hid T;rw[f,b];obtain⟨ob,L⟩:=ex (w.heap.size+1)
 obtain⟨gb,v⟩:=ex w.heap.size
 have a:Hid (w.heap.size<=ob/\w.heap.size<=B.heap.size/\gb≠ob):=hid ⟨by omega,Y.out.size,by omega⟩;rw[L]at K ⊢;rw[v]at g0 D;rw[show(Value.pointer (some ({block:=w.heap.size,off:=0}:Addr)))=.pointer (some {block:=gb,off:=0})from by rw[v]];clear b l3 bo T f L v;go_upto_region 3 with fail;clear g0;go_loopw [15] (fun s15 wr=>∃j:Nat,j<=ns.length/\s15=.int .i64 j/\Hid (KB ob B wr/\Blk wr ob 4 (bcells ((allKeys (ns.take j)).foldl (dvisit (Gr.succ ns) ns.length) s)))) (fun s15 _=>ns.length-(intOf s15).toNat)
 case atStart=>exact⟨0,by omega,rfl,hid ⟨KB.refl _ _,by simpa[allKeys]using K.out⟩⟩
 case round=>
  obtain⟨j,hj,rfl,r⟩:=hrel;obtain⟨d,ab⟩:∃d,d=wr:=⟨_,rfl⟩
  subst ab;by_cases hlt:j<ns.length
  .have I:(j:Int)<(ns.length:Int):=by omega
   have N:Hid (GAt d w.heap.size A vs ns):=hid (H.out.below (Y.out.trans (r.out.1.below a.out.1 a.out.2.1)));obtain⟨ad,k,i,rfl,l⟩:=N.out.node hlt;obtain⟨ka,kn,U⟩:=k;obtain⟨ia,X,ic⟩:=i;have z:ns[j]∈ns:=List.getElem_mem hlt;obtain⟨P,S⟩:=hks _ z;have u:Hid (∀x∈ns[j].keys,x<ns.length):=hid (fun x t=>hr _ z x (List.mem_append_left _ t));obtain⟨q,m⟩:=ex ((allKeys (ns.take j)).foldl (dvisit (Gr.succ ns) ns.length) s)
   have aa:Hid (q.length=ns.length):=hid (by rw[<-m];exact ze1 hr _ _ (fun x t=>zji hr x (zkw ns j x t)) Z.out);have V:=hid m;have G:Hid ((allKeys (ns.take (j+1))).foldl (dvisit (Gr.succ ns) ns.length) s=ns[j].keys.foldl (dvisit (Gr.succ ns) ns.length) q):=hid (by rw[zh8 ns j hlt,List.foldl_append,m]);obtain⟨n,hn⟩:=ex (ns[j])
   rw[hn]at l u G P S;obtain rfl:kn=n.keys.length:=l.kn;obtain rfl:X=n.items.length:=l.inn;have x0:=l.c0;have x1:=l.c1;have x2:=l.c2;have x3:=l.c3;have x4:=l.c4;have ac:=hid l.keys;have o:Hid (w.heap.size<=ob/\w.heap.size<=d.heap.size):=hid ⟨a.out.1,Nat.le_trans a.out.2.1 r.out.1.size⟩;clear l z m hn;go_upto_region 5 with fail;obtain⟨O,g⟩:=ex (d.alloc (.cells #[.int .i64 n.kind,.string ⟨n.text.toArray⟩,.bool n.ord,.slice ka n.keys.length U,.slice ia n.items.length ic] 36))
   have b5:Blk O d.heap.size 36 (ncells n ⟨ka,n.keys.length,U⟩ ⟨ia,n.items.length,ic⟩):=by rw[<-g];exact Blk.new _ _ _
   have s3:O.cell? ⟨d.heap.size,3,none⟩=some (.slice ka n.keys.length U):=b5.cell 3;have HA:Hid (KB ob d O/\Blk O ob 4 (bcells q)):=hid ⟨by rw[<-g];exact(KB.refl _ _).alloc _,by
    have:=r.out.2;rw[V.out]at this;rw[<-g];exact this.alloc _⟩
   rw[g];clear g b5 x0 x1 x2 x3 x4;go_upto_region 6 with fail;clear s3;go_loopw [22] (fun s22 wr=>∃k:Nat,k<=n.keys.length/\s22=.int .i64 k/\Hid (KB ob d wr/\Blk wr ob 4 (bcells ((n.keys.take k).foldl (dvisit (Gr.succ ns) ns.length) q)))) (fun s22 _=>n.keys.length-(intOf s22).toNat)
   case atStart=>exact⟨0,by omega,rfl,hid ⟨HA.out.1,by simpa using HA.out.2⟩⟩
   case round=>
    obtain⟨k,hk,rfl,p⟩:=hrel;by_cases hlk:k<n.keys.length
    .have M:(k:Int)<(n.keys.length:Int):=by omega
     obtain⟨x,t⟩:=ex (n.keys[k])
     obtain⟨ad2,rfl,_,y0⟩:=zae (ac.out.below (p.out.1.below o.out.1 o.out.2)) hlk;rw[t]at y0;have J:Blk wr gb 24 _:=p.out.1.blk (r.out.1.blk D.out a.out.2.2) a.out.2.2;obtain⟨g0,g1⟩:=cells2 J;have HC:=hid (ze0 ob (some ad) c root vs ns w.heap.size hr hl hks ((n.keys.take k).foldl (dvisit (Gr.succ ns) ns.length) q) x wr (N.out.below (p.out.1.below o.out.1 o.out.2)) a.out.1 p.out.2
      (ze1 hr _ _ (fun y hy=>u.out y (List.mem_of_mem_take hy)) aa.out) (u.out x (t▸List.getElem_mem hlk)) (zh9 _ _))
     have HT:Hid ((n.keys.take (k+1)).foldl (dvisit (Gr.succ ns) ns.length) q=dvisit (Gr.succ ns) ns.length ((n.keys.take k).foldl (dvisit (Gr.succ ns) ns.length) q) x):=hid (by rw[zak _ _ hlk,List.foldl_append,t];rfl);clear t J;go_wp2_with fail;refine HC.out.mono ?_;rintro e w6 ⟨rfl,E,F⟩;have R:Hid (KB ob d w6/\Blk w6 ob 4 (bcells ((n.keys.take (k+1)).foldl (dvisit (Gr.succ ns) ns.length) q))):=hid ⟨p.out.1.trans E,by rw[HT.out];exact F⟩;clear E F;go_wp2;go_roundw
     case rel=>exact⟨k+1,by omega,by go_num,R⟩
     case measure=>simp[intOf];omega
    .have M:¬((k:Int)<(n.keys.length:Int)):=by omega
     have Q:Hid (KB ob B wr/\Blk wr ob 4 (bcells ((allKeys (ns.take (j+1))).foldl (dvisit (Gr.succ ns) ns.length) s))):=hid ⟨r.out.1.trans p.out.1,by
      have:=p.out.2;rw[show k=n.keys.length from by omega,List.take_length]at this;rw[G.out];exact this⟩
     clear p hk;go_wp2;go_roundw
     case rel=>exact⟨j+1,by omega,by go_num,Q⟩
     case measure=>simp[intOf];omega
  .have I:¬((j:Int)<(ns.length:Int)):=by omega
   have Q:Hid (Below w.heap.size w d/\Blk d ob 4 (bcells (inKeys ns))):=hid ⟨Y.out.trans (r.out.1.below a.out.1 a.out.2.1),by
    have:=r.out.2;rw[show j=ns.length from by omega,List.take_length]at this;rw[C.out];exact this⟩
   clear r;go_wp2;go_ret;exact⟨ob,rfl,a.out.1,Q.out⟩
def nameC (c:UInt8):Bool:=(97<=c && c<=122) || (65<=c && c<=90) || (48<=c && c<=57) || c==95 || c==45 || c==46 || c==58
theorem zia (c:UInt8):nameC c=true↔(97<=c.toNat/\c.toNat<=122)\/(65<=c.toNat/\c.toNat<=90)\/(48<=c.toNat/\c.toNat<=57)\/c.toNat=95\/c.toNat=45\/c.toNat=46\/c.toNat=58:=by
 have e:∀n:Nat,n<256->(c=UInt8.ofNat n↔c.toNat=n):=fun n hn=>⟨fun h=>by rw[h];simp;omega,fun h=>by rw[<-h];simp⟩
 unfold nameC;simp only[Bool.or_eq_true,Bool.and_eq_true,decide_eq_true_eq,beq_iff_eq,UInt8.le_iff_toNat_le];rw[show(c=95)=(c=UInt8.ofNat 95)from rfl,show(c=45)=(c=UInt8.ofNat 45)from rfl,show(c=46)=(c=UInt8.ofNat 46)from rfl,show(c=58)=(c=UInt8.ofNat 58)from rfl,e 95 (by omega),e 45 (by omega),e 46 (by omega),e 58 (by omega)];simp[or_assoc]
theorem byte_at (s:Gr.Str) (k:Nat) (hk:k<s.length) (c:UInt8) (h:s[k]=c):(((⟨s.toArray⟩:ByteArray)[k]'(by simpa[ByteArray.size]using hk)).toNat:Int)=(c.toNat:Int):=by
 have:(⟨s.toArray⟩:ByteArray)[k]'(by simpa[ByteArray.size]using hk)=s[k]:=rfl;rw[this,h]
theorem zcx (s:Gr.Str) (hs:s.length<=1073741823) (w:World):Calls prog 14 #[.string ⟨s.toArray⟩] w fun e w'=>e=.returned (.bool (nameB s))/\w'=w:=by
 have k:Hid (∀r:Bool,r=nameB s↔r=(s.all nameC && decide (1<=s.length) && decide (s.length<=64))):=hid (fun r=>by
  have:nameB s=(s.all nameC && decide (1<=s.length) && decide (s.length<=64)):=rfl;rw[this])
 go_enter func14,ntmps14;go_upto_region 2 with fail;go_loop [7] (fun x=>∃i:Nat,i<=s.length/\x=.int .i64 i/\Hid ((s.take i).all nameC=true)) (fun i=>s.length-(intOf i).toNat)
 case atStart=>exact⟨0,by omega,rfl,hid (by simp)⟩
 case round=>
  obtain⟨i,hi,rfl,q⟩:=hrel;by_cases hil:i<s.length
  .have d:(i:Int)<(s.length:Int):=by omega
   obtain⟨c,f⟩:=ex (s[i])
   have q0:=byte_at s i hil c f;have hbd:c.toNat<256:=c.toNat_lt;have hn:=zia c;have j:Hid ((s.take (i+1)).all nameC=nameC c):=hid (by rw[List.take_succ_eq_append_getElem hil,List.all_append,q.out,f];simp);by_cases hy:nameC c=true
   .have n:Hid ((s.take (i+1)).all nameC=true):=hid (by rw[j.out,hy]);have hn:=hn.1 hy;clear hy j f;rcases hn with hn|hn|hn|hn|hn|hn|hn
    all_goals
     go_wp2;go_round
     case rel=>exact⟨i+1,by omega,by go_num,n⟩
     case measure=>simp[intOf];omega
   .have a:Hid (nameB s=false):=hid (by
     have b:(s.take (i+1)).all nameC=false:=by rw[j.out];simpa using hy
     have g:s.all nameC=false:=by
      cases e:s.all nameC with
      |false=>rfl
      |true=>
       rw[List.all_eq_true]at e;rw[List.all_eq_false]at b;obtain⟨x,B,o⟩:=b;exact absurd (e x (List.mem_of_mem_take B)) o
     exact((k.out false).2 (by rw[g];rfl)).symm)
    have hn:=fun h=>hy (hn.2 h)
    have u:¬(97<=c.toNat/\c.toNat<=122):=fun h=>hn (.inl h)
    have y:¬(65<=c.toNat/\c.toNat<=90):=fun h=>hn (.inr (.inl h))
    have A:¬(48<=c.toNat/\c.toNat<=57):=fun h=>hn (.inr (.inr (.inl h)))
    have z:¬(c.toNat=95):=fun h=>hn (.inr (.inr (.inr (.inl h))))
    have t:¬(c.toNat=45):=fun h=>hn (.inr (.inr (.inr (.inr (.inl h)))))
    have v:¬(c.toNat=46):=fun h=>hn (.inr (.inr (.inr (.inr (.inr (.inl h))))))
    have D:¬(c.toNat=58):=fun h=>hn (.inr (.inr (.inr (.inr (.inr (.inr h))))))
    clear hn hy f j;have m:c.toNat<45\/c.toNat=47\/(59<=c.toNat/\c.toNat<=64)\/(91<=c.toNat/\c.toNat<=94)\/c.toNat=96\/122<c.toNat:=by omega
    have e4:((c.toNat:Int)==95)=false:=by simp;omega
    have e5:((c.toNat:Int)==45)=false:=by simp;omega
    have e6:((c.toNat:Int)==46)=false:=by simp;omega
    have e7:((c.toNat:Int)==58)=false:=by simp;omega
    clear u y A z t v D;rcases m with hn|hn|hn|hn|hn|hn
    all_goals
     go_wp2_with fail
     all_goals first
      | (go_ret;exact⟨by rw[a.out]<;>rfl,rfl⟩)
      | (exfalso;rename_i h;simp only[Bool.not_eq_false',decide_eq_true_eq]at h;omega)
  .have d:¬((i:Int)<(s.length:Int)):=by omega
   have C:Hid (s.all nameC=true):=hid (by have:=q.out;rwa[List.take_of_length_le (by omega)]at this);by_cases b:1<=s.length
   .have l:(1:Int)<=(s.length:Int):=by omega
    by_cases g:s.length<=64
    .have p:(s.length:Int)<=64:=by omega
     have a:Hid (nameB s=true):=hid ((k.out true).2 (by rw[C.out];simp[b,g])).symm;go_wp2;go_ret;exact⟨by rw[a.out]<;>rfl,rfl⟩
    .have p:¬((s.length:Int)<=64):=by omega
     have a:Hid (nameB s=false):=hid ((k.out false).2 (by simp[g])).symm;go_wp2;go_ret;exact⟨by rw[a.out]<;>rfl,rfl⟩
   .have l:¬((1:Int)<=(s.length:Int)):=by omega
    have a:Hid (nameB s=false):=hid ((k.out false).2 (by simp[b])).symm;go_wp2;go_ret;exact⟨by rw[a.out]<;>rfl,rfl⟩
end Go.Proofs.YtpjmhafmeieloaaGreatDoor

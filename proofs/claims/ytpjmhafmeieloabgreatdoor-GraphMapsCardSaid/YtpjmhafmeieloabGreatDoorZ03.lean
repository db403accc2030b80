import Derived.Test.YtpjmhafmeieloabGreatDoorZ02
import Derived.Laws.EntriesVeiled
namespace Go.Proofs.YtpjmhafmeieloabGreatDoor
open _root_.Go.Proofs.Tryz
open _root_.Go.Lib (hid)
set_option maxRecDepth 100000
set_option maxHeartbeats 16000000
open Go.RowKit
theorem zu9 {g:Nat} {w w1 w2:World} (h1:Below w.heap.size w w1) (h2:Kept1 g w1 w2):zbg w w2 (fun k=>k=g):=
 ⟨h2.os.trans h1.os,h2.tape.trans h1.tape,h2.output.trans h1.output,by rw[h2.size];exact h1.size,fun k b a=>(h2.block k a).trans (h1.block k b)⟩
theorem zet (mb:Nat) (A:Option Addr) (c:Nat) (root:Int) (vs:List NV) (ns:List Gr.Nd) (B:Nat) (hr:Gr.Refs ns) (hl:ns.length<=1073741823) (hks:∀n∈ns,n.keys.length<=1073741823/\n.items.length<=1073741823)
 (m:List Bool) (a:Nat) (w:World) (h:GAt w B A vs ns) (hB:B<=mb) (hm:Blk w mb 4 (bcells m)) (hml:m.length=ns.length) (ha:a<ns.length) (hu:Gr.unm ns.length m<=ns.length):
 Calls prog 25 #[.agg #[.slice A ns.length c,.int .i64 root],.int .i64 a,.slice (some ⟨mb,0,none⟩) ns.length ns.length] w fun e w'=>e=.returned (.tuple #[])/\zbg w w' (fun k=>k=mb)/\Blk w' mb 4 (bcells (Gr.dvisit (Gr.succ ns) ns.length m a)):=by
 have o:B<=w.heap.size:=Nat.le_trans hB (Nat.le_of_lt hm.lt);have H:=hid h;have t:=hid hm;clear h hm;go_enter func25,ntmps25;go_upto_region 3 with fail;obtain⟨d,b⟩:=ex (((w.alloc (.cells #[.slice A ns.length c,.int .i64 root] 27)).alloc (.cells #[.slice (some ⟨mb,0,none⟩) ns.length ns.length] 54)).alloc (.cells #[.func (.func 43) #[] #[.pointer (some ⟨w.heap.size+1,0,none⟩),.pointer (some ⟨w.heap.size,0,none⟩),.pointer (some ⟨w.heap.size+1+1,0,none⟩)]] 70))
 have j:Below w.heap.size w d:=by rw[<-b];exact(((Below.refl _ _).alloc (Nat.le_refl _) _).alloc (by simp) _).alloc (by simp;omega) _
 have s:Blk d w.heap.size 27 #[.slice A ns.length c,.int .i64 root]:=by rw[<-b];exact((Blk.new _ _ _).alloc _).alloc _
 have r:Blk d (w.heap.size+1) 54 #[.slice (some ⟨mb,0,none⟩) ns.length ns.length]:=by
  rw[<-b];have:=Blk.new (w.alloc (.cells #[.slice A ns.length c,.int .i64 root] 27)) 54 #[.slice (some ⟨mb,0,none⟩) ns.length ns.length];rw[World.size_alloc]at this;exact this.alloc _
 have p:Blk d (w.heap.size+1+1) 70 #[.func (.func 43) #[] #[.pointer (some ⟨w.heap.size+1,0,none⟩),.pointer (some ⟨w.heap.size,0,none⟩),.pointer (some ⟨w.heap.size+1+1,0,none⟩)]]:=by
  rw[<-b];have:=Blk.new ((w.alloc (.cells #[.slice A ns.length c,.int .i64 root] 27)).alloc (.cells #[.slice (some ⟨mb,0,none⟩) ns.length ns.length] 54)) 70 #[.func (.func 43) #[] #[.pointer (some ⟨w.heap.size+1,0,none⟩),.pointer (some ⟨w.heap.size,0,none⟩),.pointer (some ⟨w.heap.size+1+1,0,none⟩)]];rw[World.size_alloc,World.size_alloc]at this;exact this
 have v0:d.cell? ⟨w.heap.size+1+1,0,none⟩=some (.func (.func 43) #[] #[.pointer (some ⟨w.heap.size+1,0,none⟩),.pointer (some ⟨w.heap.size,0,none⟩),.pointer (some ⟨w.heap.size+1+1,0,none⟩)]):=p.cell 0;have f:RV d mb (w.heap.size+1) w.heap.size (w.heap.size+1+1) A c root vs ns B:=⟨r,s,p,H.out.below (j.mono o),hB⟩
 have v:=hid (zn3 mb (w.heap.size+1) w.heap.size (w.heap.size+1+1) A c root vs ns B hr hl hks ns.length m a d f (t.out.below j t.out.lt) hml ha hu);have u:=hid j;rw[b];clear b j s r p f;go_wp2_with fail;refine v.out.mono ?_;rintro e w5 ⟨rfl,i,g⟩;have l:=hid i;have q:=hid g;clear i g;go_wp2_with fail;go_end0;exact⟨rfl,zu9 u.out l.out,q.out⟩
open Gr
theorem zb3 (l:List Nat) (x:Nat):(cstep l x).length=l.length:=by unfold cstep;simp
theorem zbr (L l:List Nat):(L.foldl cstep l).length=l.length:=by
 induction L generalizing l with
 |nil=>rfl
 |cons x L ih=>rw[List.foldl_cons,ih,zb3]
theorem zeg (l:List Nat) (x y:Nat):(cstep l x).getD y 0<=l.getD y 0+1:=by
 unfold cstep;by_cases h:x=y
 .subst h;by_cases hx:x<l.length
  .rw[za1 _ _ _ _ hx];exact Nat.le_refl _
  .rw[List.set_eq_of_length_le (by omega)];omega
 .rw[Gr.getD_set_ne _ _ _ _ _ h];omega
theorem zde (L l:List Nat) (y:Nat):(L.foldl cstep l).getD y 0<=l.getD y 0+L.length:=by
 induction L generalizing l with
 |nil=>simp
 |cons x L ih=>
  rw[List.foldl_cons,List.length_cons];have:=ih (cstep l x);have:=zeg l x y;omega
theorem zdf (ns:List Gr.Nd) (j:Nat) (h:j<ns.length):Gr.refs (ns.take (j+1))=Gr.refs (ns.take j)++(ns[j].keys++ns[j].items):=by
 unfold Gr.refs;rw[List.take_succ_eq_append_getElem h,List.flatMap_append];simp
theorem zva (ns:List Gr.Nd) (j:Nat):(Gr.refs (ns.take j)).length<=(Gr.refs ns).length:=by
 have:Gr.refs ns=Gr.refs (ns.take j)++Gr.refs (ns.drop j):=by
  unfold Gr.refs;rw[<-List.flatMap_append,List.take_append_drop]
 rw[this,List.length_append];omega
def ncells (n:Gr.Nd) (k i:SV):Array Value:=#[.int .i64 n.kind,.string ⟨n.text.toArray⟩,.bool n.ord,k.v,i.v]
theorem zfz (A:Option Addr) (c:Nat) (root:Nat) (vs:List NV) (ns:List Gr.Nd) (hr:Refs ns) (hl:ns.length<=1073741823) (hks:∀n∈ns,n.keys.length<=1073741823/\n.items.length<=1073741823) (hrl:(Gr.refs ns).length<=1125899906842624)
 (w:World) (h:GAt w w.heap.size A vs ns) (hroot:root<ns.length):
 Calls prog 27 #[.agg #[.slice A ns.length c,.int .i64 root]] w fun e w'=>∃ob,e=.returned (.slice (some ⟨ob,0,none⟩) ns.length ns.length)/\w.heap.size<=ob/\Below w.heap.size w w'/\Blk w' ob 3 (icells (counts ns root)):=by
 have H:=hid h;have hmk:=fun W=>zb1 ns.length (by omega) W
 have ai:(root:Int)<(ns.length:Int):=by omega
 clear h;go_enter func27,ntmps27;go_upto_region 2 with fail;obtain⟨Q,C⟩:=ex ((w.alloc (.cells #[.slice A ns.length c,.int .i64 root] 27)).alloc (.cells (icells (List.replicate ns.length 0)) 3))
 have l2:Below w.heap.size w Q:=by rw[<-C];exact((Below.refl _ _).alloc (Nat.le_refl _) _).alloc (by simp) _
 have bg:Blk Q w.heap.size 27 #[.slice A ns.length c,.int .i64 root]:=by rw[<-C];exact(Blk.new _ _ _).alloc _
 have bo:Blk Q (w.heap.size+1) 3 (icells (List.replicate ns.length 0)):=by
  rw[<-C];have:=Blk.new (w.alloc (.cells #[.slice A ns.length c,.int .i64 root] 27)) 3 (icells (List.replicate ns.length 0));rw[World.size_alloc]at this;exact this
 have g1:Q.cell? ⟨w.heap.size,1,none⟩=some (.int .i64 root):=bg.cell 1;have z0:Q.cell? ⟨w.heap.size+1,root,none⟩=some (.int .i64 0):=by
  rw[bo.cell,zad (by simpa using hroot)];simp[List.getD_eq_getElem?_getD,hroot]
 have zf:∀i,Q.frozen? ⟨w.heap.size+1,i,none⟩=false:=bo.frozen;rw[C];clear C;go_upto_region 3 with fail;obtain⟨f,D⟩:=ex (cstep (List.replicate ns.length 0) root)
 obtain⟨U,u⟩:=ex (Q.setCell ⟨w.heap.size+1,root,none⟩ (.int .i64 1))
 have b3:Blk U (w.heap.size+1) 3 (icells f):=by
  rw[<-u,<-D];unfold cstep;have e:(List.replicate ns.length 0).getD root 0=0:=by simp[List.getD_eq_getElem?_getD,hroot]
  rw[e,<-zav];exact bo.set_ root _
 have af:Blk U w.heap.size 27 #[.slice A ns.length c,.int .i64 root]:=by rw[<-u];exact bg.far (by simp) _
 have g0:U.cell? ⟨w.heap.size,0,none⟩=some (.slice A ns.length c):=af.cell 0;have L3:Hid (Below w.heap.size w U):=hid (by rw[<-u];exact l2.setCell (by simp) _);have J:Hid (f.length=ns.length/\∀x,f.getD x 0<=1):=hid (by
  rw[<-D];refine⟨by rw[zb3];simp,fun x=>?_⟩;have:=zeg (List.replicate ns.length 0) root x;have e:(List.replicate ns.length 0).getD x 0=0:=by simp[List.getD_eq_getElem?_getD,List.getElem?_replicate];split<;>rfl
  omega)
 have ae:Hid (counts ns root=(Gr.refs ns).foldl cstep f):=hid (by rw[<-D];rfl);have ab:=hid b3;rw[u];obtain⟨ob,ag⟩:=ex (w.heap.size+1)
 rw[ag]at ab ⊢;have l:Hid (w.heap.size<=ob/\w.heap.size<=U.heap.size):=hid ⟨by omega,L3.out.size⟩;clear u l2 bg bo g1 z0 zf b3 af ag D;go_upto_region 4 with fail;clear g0 ai;go_loopw [24] (fun s24 wr=>∃j:Nat,j<=ns.length/\s24=.int .i64 j/\Hid (KB ob U wr/\Blk wr ob 3 (icells ((Gr.refs (ns.take j)).foldl cstep f)))) (fun s24 _=>ns.length-(intOf s24).toNat)
 case atStart=>exact⟨0,by omega,rfl,hid ⟨KB.refl _ _,by simpa[Gr.refs]using ab.out⟩⟩
 case round=>
  obtain⟨j,hj,rfl,X⟩:=hrel;obtain⟨g,al⟩:∃g,g=wr:=⟨_,rfl⟩
  subst al;by_cases hlt:j<ns.length
  .have aa:(j:Int)<(ns.length:Int):=by omega
   obtain⟨ad,k,i,rfl,y⟩:=(H.out.below (L3.out.trans (X.out.1.below l.out.1 l.out.2))).node hlt;obtain⟨ka,kn,kc⟩:=k;obtain⟨Y,ak,Z⟩:=i;have O:ns[j]∈ns:=List.getElem_mem hlt;obtain⟨aj,au⟩:=hks _ O;have P:Hid (∀x∈ns[j].keys++ns[j].items,x<ns.length):=hid (hr _ O);obtain⟨R,hR⟩:=ex (Gr.refs (ns.take j))
   have an:=hid hR;have q:Hid (Gr.refs (ns.take (j+1))=R++(ns[j].keys++ns[j].items)):=hid (by rw[zdf ns j hlt,hR]);have r:Hid (R.length+ns[j].keys.length+ns[j].items.length<=1125899906842624):=hid (by
    have h1:=zva ns (j+1);rw[q.out]at h1;simp only[List.length_append]at h1;omega)
   obtain⟨n,hn⟩:=ex (ns[j])
   rw[hn]at y P q r aj au;obtain rfl:kn=n.keys.length:=y.kn;obtain rfl:ak=n.items.length:=y.inn;have x0:=y.c0;have x1:=y.c1;have x2:=y.c2;have x3:=y.c3;have x4:=y.c4;have ar:=hid y.keys;have am:=hid y.items;have F:Hid (w.heap.size<=ob/\w.heap.size<=g.heap.size):=hid ⟨l.out.1,Nat.le_trans l.out.2 X.out.1.size⟩;clear y O hR hn;go_upto_region 6 with fail;obtain⟨w5,z⟩:=ex (g.alloc (.cells #[.int .i64 n.kind,.string ⟨n.text.toArray⟩,.bool n.ord,.slice ka n.keys.length kc,.slice Y n.items.length Z] 40))
   have b5:Blk w5 g.heap.size 40 (ncells n ⟨ka,n.keys.length,kc⟩ ⟨Y,n.items.length,Z⟩):=by rw[<-z];exact Blk.new _ _ _
   have s3:w5.cell? ⟨g.heap.size,3,none⟩=some (.slice ka n.keys.length kc):=b5.cell 3;have s:Hid (KB ob g w5/\Blk w5 ob 3 (icells (R.foldl cstep f))/\Blk w5 g.heap.size 40 (ncells n ⟨ka,n.keys.length,kc⟩ ⟨Y,n.items.length,Z⟩)):=hid ⟨by rw[<-z];exact(KB.refl _ _).alloc _,by
    have:=X.out.2;rw[an.out]at this;rw[<-z];exact this.alloc _,b5⟩
   rw[z];obtain⟨m,B⟩:=ex (ncells n ⟨ka,n.keys.length,kc⟩ ⟨Y,n.items.length,Z⟩)
   have av:Hid (m[4]? =some (.slice Y n.items.length Z)):=hid (by rw[<-B];rfl);rw[B]at s;clear B;obtain⟨S,ac⟩:=ex g.heap.size
   rw[ac]at s s3 ⊢;clear z b5 x0 x1 x2 x3 x4 ac;go_upto_region 7 with fail;clear s3;go_loopw [31] (fun s31 wr=>∃k:Nat,k<=n.keys.length/\s31=.int .i64 k/\Hid (KB ob g wr/\Blk wr ob 3 (icells ((R++n.keys.take k).foldl cstep f))/\Blk wr S 40 m)) (fun s31 _=>n.keys.length-(intOf s31).toNat)
   case atStart=>exact⟨0,by omega,rfl,hid ⟨s.out.1,by simpa using s.out.2.1,s.out.2.2⟩⟩
   case round=>
    obtain⟨k,hk,rfl,b⟩:=hrel;by_cases hlk:k<n.keys.length
    .have o:(k:Int)<(n.keys.length:Int):=by omega
     obtain⟨x,G⟩:=ex (n.keys[k])
     obtain⟨aq,rfl,_,y0⟩:=zae (ar.out.below (b.out.1.below F.out.1 F.out.2)) hlk;rw[G]at y0;have ao:x<ns.length:=P.out x (by simp[<-G]);obtain⟨d,a⟩:=ex ((R++n.keys.take k).foldl cstep f)
     have V:d.length=ns.length:=by rw[<-a,zbr,J.out.1]
     have M:d.getD x 0<=1125899906842625:=by
      rw[<-a];have h1:=zde (R++n.keys.take k) f x;have h2:=J.out.2 x;have h3:=r.out;rw[List.length_append,List.length_take]at h1;omega
     have ah:k<=1073741823:=by omega
     have p:=b.out.2.1;rw[a]at p;obtain⟨v,I⟩:=ex (d.getD x 0)
     have z0:wr.cell? ⟨ob,x,none⟩=some (.int .i64 (v:Int)):=by rw[p.cell,zad (by omega),I]
     have zf:∀i,wr.frozen? ⟨ob,i,none⟩=false:=p.frozen;have ap:(x:Int)<(ns.length:Int):=by omega
     rw[I]at M;have T:Hid (KB ob g (wr.setCell ⟨ob,x,none⟩ (.int .i64 ((v:Int)+1)))/\Blk (wr.setCell ⟨ob,x,none⟩ (.int .i64 ((v:Int)+1))) ob 3 (icells ((R++n.keys.take (k+1)).foldl cstep f))/\Blk (wr.setCell ⟨ob,x,none⟩ (.int .i64 ((v:Int)+1))) S 40 m):=hid (by
      refine⟨b.out.1.set _ _,?_,b.out.2.2.far (b.out.2.2.ne_ p (by decide)) _⟩;rw[zaj _ _ hlk,<-List.append_assoc,List.foldl_append,a,G];show Blk _ _ _ (icells (cstep d x));unfold cstep;rw[I,<-zav,show(((v+1:Nat)):Int)=(v:Int)+1 from by omega];exact p.set_ x _)
     clear p a V I G b;go_wp2;go_roundw
     case rel=>exact⟨k+1,by omega,by go_num,T⟩
     case measure=>simp[intOf];omega
    .have o:¬((k:Int)<(n.keys.length:Int)):=by omega
     have t:Hid (KB ob g wr/\Blk wr ob 3 (icells ((R++n.keys).foldl cstep f))/\Blk wr S 40 m):=hid ⟨b.out.1,by have:=b.out.2.1;rw[show k=n.keys.length from by omega,List.take_length]at this;exact this,b.out.2.2⟩;clear b s;obtain⟨N,E⟩:=ex (R++n.keys)
     have s:=hid t.out;rw[E]at s;have K:Hid (N.length+n.items.length<=1125899906842624):=hid (by rw[<-E,List.length_append];have:=r.out;omega);have L:Hid (Gr.refs (ns.take (j+1))=N++n.items):=hid (by rw[q.out,<-E,List.append_assoc]);clear r q E t hk hlk;have q:=L;have r:=K;clear K L;have s4:wr.cell? ⟨S,4,none⟩=some (.slice Y n.items.length Z):=(s.out.2.2.cell 4).trans av.out;go_upto_region 12 with fail;clear s4 o;go_loopw [45] (fun s45 wr=>∃k:Nat,k<=n.items.length/\s45=.int .i64 k/\Hid (KB ob g wr/\Blk wr ob 3 (icells ((N++n.items.take k).foldl cstep f))/\Blk wr S 40 m)) (fun s45 _=>n.items.length-(intOf s45).toNat)
     case atStart=>exact⟨0,by omega,rfl,hid ⟨s.out.1,by simpa using s.out.2.1,s.out.2.2⟩⟩
     case round=>
      obtain⟨k,hk,rfl,b⟩:=hrel;by_cases hlk:k<n.items.length
      .have o:(k:Int)<(n.items.length:Int):=by omega
       obtain⟨x,G⟩:=ex (n.items[k])
       obtain⟨aq,rfl,_,y0⟩:=zae (am.out.below (b.out.1.below F.out.1 F.out.2)) hlk;rw[G]at y0;have ao:x<ns.length:=P.out x (by simp[<-G]);obtain⟨d,a⟩:=ex ((N++n.items.take k).foldl cstep f)
       have V:d.length=ns.length:=by rw[<-a,zbr,J.out.1]
       have M:d.getD x 0<=1125899906842625:=by
        rw[<-a];have h1:=zde (N++n.items.take k) f x;have h2:=J.out.2 x;have h3:=r.out;rw[List.length_append,List.length_take]at h1;omega
       have ah:k<=1073741823:=by omega
       have p:=b.out.2.1;rw[a]at p;obtain⟨v,I⟩:=ex (d.getD x 0)
       have z0:wr.cell? ⟨ob,x,none⟩=some (.int .i64 (v:Int)):=by rw[p.cell,zad (by omega),I]
       have zf:∀i,wr.frozen? ⟨ob,i,none⟩=false:=p.frozen;have ap:(x:Int)<(ns.length:Int):=by omega
       rw[I]at M;have T:Hid (KB ob g (wr.setCell ⟨ob,x,none⟩ (.int .i64 ((v:Int)+1)))/\Blk (wr.setCell ⟨ob,x,none⟩ (.int .i64 ((v:Int)+1))) ob 3 (icells ((N++n.items.take (k+1)).foldl cstep f))/\Blk (wr.setCell ⟨ob,x,none⟩ (.int .i64 ((v:Int)+1))) S 40 m):=hid (by
        refine⟨b.out.1.set _ _,?_,b.out.2.2.far (b.out.2.2.ne_ p (by decide)) _⟩;rw[zaj _ _ hlk,<-List.append_assoc,List.foldl_append,a,G];show Blk _ _ _ (icells (cstep d x));unfold cstep;rw[I,<-zav,show(((v+1:Nat)):Int)=(v:Int)+1 from by omega];exact p.set_ x _)
       clear p a V I G b;go_wp2;go_roundw
       case rel=>exact⟨k+1,by omega,by go_num,T⟩
       case measure=>simp[intOf];omega
      .have o:¬((k:Int)<(n.items.length:Int)):=by omega
       have t:Hid (KB ob g wr/\Blk wr ob 3 (icells ((N++n.items).foldl cstep f))/\Blk wr S 40 m):=hid ⟨b.out.1,by have:=b.out.2.1;rw[show k=n.items.length from by omega,List.take_length]at this;exact this,b.out.2.2⟩;clear b s;have HE:Hid (KB ob U wr/\Blk wr ob 3 (icells ((Gr.refs (ns.take (j+1))).foldl cstep f))):=hid ⟨X.out.1.trans t.out.1,by have:=t.out.2.1;rw[q.out];exact this⟩;clear hk;go_wp2;go_roundw
       case rel=>exact⟨j+1,by omega,by go_num,HE⟩
       case measure=>simp[intOf];omega
  .have aa:¬((j:Int)<(ns.length:Int)):=by omega
   have HE:Hid (Below w.heap.size w g/\Blk g ob 3 (icells (counts ns root))):=hid ⟨L3.out.trans (X.out.1.below l.out.1 l.out.2),by
    have:=X.out.2;rw[show j=ns.length from by omega,List.take_length]at this;rw[ae.out];exact this⟩
   clear X;go_wp2;go_ret;exact⟨ob,rfl,l.out.1,HE.out⟩
theorem zhn (ns:List Gr.Nd) (j:Nat) (h:j<ns.length):allKeys (ns.take (j+1))=allKeys (ns.take j)++ns[j].keys:=by
 unfold allKeys;rw[List.take_succ_eq_append_getElem h,List.flatMap_append];simp
theorem zjd {ns:List Gr.Nd} (hr:Refs ns):∀x∈allKeys ns,x<ns.length:=by
 intro x c;obtain⟨y,b,a⟩:=List.mem_flatMap.1 c;exact hr y b x (List.mem_append_left _ a)
theorem zkj (ns:List Gr.Nd) (j:Nat):∀x∈allKeys (ns.take j),x∈allKeys ns:=by
 intro x c;obtain⟨y,b,a⟩:=List.mem_flatMap.1 c;exact List.mem_flatMap.2 ⟨y,List.mem_of_mem_take b,a⟩
theorem zho (n:Nat) (m:List Bool):unm n m<=n:=Nat.le_trans List.countP_le_length (by simp)
theorem zeu {ns:List Gr.Nd} (hr:Refs ns) (L:List Nat) (m:List Bool) (hL:∀x∈L,x<ns.length) (hm:m.length=ns.length):(L.foldl (dvisit (Gr.succ ns) ns.length) m).length=ns.length:=
 (zes (zbp hr.succ ns.length) L m hL hm (zho _ _)).len
theorem zlr (A:Option Addr) (c:Nat) (root:Int) (vs:List NV) (ns:List Gr.Nd) (hr:Refs ns) (hl:ns.length<=1073741823) (hks:∀n∈ns,n.keys.length<=1073741823/\n.items.length<=1073741823)
 (w:World) (h:GAt w w.heap.size A vs ns):
 Calls prog 28 #[.agg #[.slice A ns.length c,.int .i64 root]] w fun e w'=>∃ob,e=.returned (.slice (some ⟨ob,0,none⟩) ns.length ns.length)/\w.heap.size<=ob/\Below w.heap.size w w'/\Blk w' ob 4 (bcells (inKeys ns)):=by
 have H:=hid h;have hmk:=fun W=>zb2 ns.length (by omega) W
 clear h;go_enter func28,ntmps28;go_upto_region 2 with fail;obtain⟨B,b⟩:=ex ((w.alloc (.cells #[.slice A ns.length c,.int .i64 root] 27)).alloc (.cells (bcells (List.replicate ns.length false)) 4))
 have l3:Below w.heap.size w B:=by rw[<-b];exact((Below.refl _ _).alloc (Nat.le_refl _) _).alloc (by simp) _
 have bg:Blk B w.heap.size 27 #[.slice A ns.length c,.int .i64 root]:=by rw[<-b];exact(Blk.new _ _ _).alloc _
 obtain⟨s,g⟩:=ex (List.replicate ns.length false)
 rw[g]at b;have bo:Blk B (w.heap.size+1) 4 (bcells s):=by
  rw[<-b];have:=Blk.new (w.alloc (.cells #[.slice A ns.length c,.int .i64 root] 27)) 4 (bcells s);rw[World.size_alloc]at this;exact this
 have g0:B.cell? ⟨w.heap.size,0,none⟩=some (.slice A ns.length c):=bg.cell 0;have aa:Hid (s.length=ns.length):=hid (by rw[<-g];simp);have I:Hid (inKeys ns=(allKeys ns).foldl (dvisit (Gr.succ ns) ns.length) s):=hid (by rw[<-g];rfl);have S:=hid l3;have E:=hid bo;have L:=hid bg;rw[g,b];obtain⟨ob,J⟩:=ex (w.heap.size+1)
 obtain⟨gb,u⟩:=ex w.heap.size
 have a:Hid (w.heap.size<=ob/\w.heap.size<=B.heap.size/\gb≠ob):=hid ⟨by omega,S.out.size,by omega⟩;rw[J]at E ⊢;rw[u]at g0 L;rw[show(Value.pointer (some ({block:=w.heap.size,off:=0}:Addr)))=.pointer (some {block:=gb,off:=0})from by rw[u]];clear b l3 bo bg g J u;go_upto_region 3 with fail;clear g0;go_loopw [15] (fun s15 wr=>∃j:Nat,j<=ns.length/\s15=.int .i64 j/\Hid (KB ob B wr/\Blk wr ob 4 (bcells ((allKeys (ns.take j)).foldl (dvisit (Gr.succ ns) ns.length) s)))) (fun s15 _=>ns.length-(intOf s15).toNat)
 case atStart=>exact⟨0,by omega,rfl,hid ⟨KB.refl _ _,by simpa[allKeys]using E.out⟩⟩
 case round=>
  obtain⟨j,hj,rfl,t⟩:=hrel;obtain⟨d,R⟩:∃d,d=wr:=⟨_,rfl⟩
  subst R;by_cases hlt:j<ns.length
  .have D:(j:Int)<(ns.length:Int):=by omega
   have M:Hid (GAt d w.heap.size A vs ns):=hid (H.out.below (S.out.trans (t.out.1.below a.out.1 a.out.2.1)));obtain⟨ad,k,i,rfl,l⟩:=M.out.node hlt;obtain⟨X,kn,V⟩:=k;obtain⟨ia,Q,ic⟩:=i;have v:ns[j]∈ns:=List.getElem_mem hlt;obtain⟨P,ac⟩:=hks _ v;have z:Hid (∀x∈ns[j].keys,x<ns.length):=hid (fun x r=>hr _ v x (List.mem_append_left _ r));obtain⟨q,o⟩:=ex ((allKeys (ns.take j)).foldl (dvisit (Gr.succ ns) ns.length) s)
   have Z:Hid (q.length=ns.length):=hid (by rw[<-o];exact zeu hr _ _ (fun x r=>zjd hr x (zkj ns j x r)) aa.out);have U:=hid o;have G:Hid ((allKeys (ns.take (j+1))).foldl (dvisit (Gr.succ ns) ns.length) s=ns[j].keys.foldl (dvisit (Gr.succ ns) ns.length) q):=hid (by rw[zhn ns j hlt,List.foldl_append,o]);obtain⟨n,hn⟩:=ex (ns[j])
   rw[hn]at l z G P ac;obtain rfl:kn=n.keys.length:=l.kn;obtain rfl:Q=n.items.length:=l.inn;have x0:=l.c0;have x1:=l.c1;have x2:=l.c2;have x3:=l.c3;have x4:=l.c4;have ab:=hid l.keys;have m:Hid (w.heap.size<=ob/\w.heap.size<=d.heap.size):=hid ⟨a.out.1,Nat.le_trans a.out.2.1 t.out.1.size⟩;clear l v o hn;go_upto_region 5 with fail;obtain⟨O,f⟩:=ex (d.alloc (.cells #[.int .i64 n.kind,.string ⟨n.text.toArray⟩,.bool n.ord,.slice X n.keys.length V,.slice ia n.items.length ic] 40))
   have b5:Blk O d.heap.size 40 (ncells n ⟨X,n.keys.length,V⟩ ⟨ia,n.items.length,ic⟩):=by rw[<-f];exact Blk.new _ _ _
   have s3:O.cell? ⟨d.heap.size,3,none⟩=some (.slice X n.keys.length V):=b5.cell 3;have HA:Hid (KB ob d O/\Blk O ob 4 (bcells q)):=hid ⟨by rw[<-f];exact(KB.refl _ _).alloc _,by
    have:=t.out.2;rw[U.out]at this;rw[<-f];exact this.alloc _⟩
   rw[f];clear f b5 x0 x1 x2 x3 x4;go_upto_region 6 with fail;clear s3;go_loopw [22] (fun s22 wr=>∃k:Nat,k<=n.keys.length/\s22=.int .i64 k/\Hid (KB ob d wr/\Blk wr ob 4 (bcells ((n.keys.take k).foldl (dvisit (Gr.succ ns) ns.length) q)))) (fun s22 _=>n.keys.length-(intOf s22).toNat)
   case atStart=>exact⟨0,by omega,rfl,hid ⟨HA.out.1,by simpa using HA.out.2⟩⟩
   case round=>
    obtain⟨k,hk,rfl,p⟩:=hrel;by_cases hlk:k<n.keys.length
    .have K:(k:Int)<(n.keys.length:Int):=by omega
     obtain⟨x,r⟩:=ex (n.keys[k])
     obtain⟨ad2,rfl,_,y0⟩:=zae (ab.out.below (p.out.1.below m.out.1 m.out.2)) hlk;rw[r]at y0;have F:Blk wr gb 27 _:=p.out.1.blk (t.out.1.blk L.out a.out.2.2) a.out.2.2;obtain⟨g0,g1⟩:=cells2 F;have HC:=hid (zet ob (some ad) c root vs ns w.heap.size hr hl hks ((n.keys.take k).foldl (dvisit (Gr.succ ns) ns.length) q) x wr (M.out.below (p.out.1.below m.out.1 m.out.2)) a.out.1 p.out.2
      (zeu hr _ _ (fun y hy=>z.out y (List.mem_of_mem_take hy)) Z.out) (z.out x (r▸List.getElem_mem hlk)) (zho _ _))
     have HT:Hid ((n.keys.take (k+1)).foldl (dvisit (Gr.succ ns) ns.length) q=dvisit (Gr.succ ns) ns.length ((n.keys.take k).foldl (dvisit (Gr.succ ns) ns.length) q) x):=hid (by rw[zaj _ _ hlk,List.foldl_append,r];rfl);clear r F;go_wp2_with fail;refine HC.out.mono ?_;rintro e w6 ⟨rfl,C,N⟩;have Y:Hid (KB ob d w6/\Blk w6 ob 4 (bcells ((n.keys.take (k+1)).foldl (dvisit (Gr.succ ns) ns.length) q))):=hid ⟨p.out.1.trans C,by rw[HT.out];exact N⟩;clear C N;go_wp2;go_roundw
     case rel=>exact⟨k+1,by omega,by go_num,Y⟩
     case measure=>simp[intOf];omega
    .have K:¬((k:Int)<(n.keys.length:Int)):=by omega
     have T:Hid (KB ob B wr/\Blk wr ob 4 (bcells ((allKeys (ns.take (j+1))).foldl (dvisit (Gr.succ ns) ns.length) s))):=hid ⟨t.out.1.trans p.out.1,by
      have:=p.out.2;rw[show k=n.keys.length from by omega,List.take_length]at this;rw[G.out];exact this⟩
     clear p hk;go_wp2;go_roundw
     case rel=>exact⟨j+1,by omega,by go_num,T⟩
     case measure=>simp[intOf];omega
  .have D:¬((j:Int)<(ns.length:Int)):=by omega
   have T:Hid (Below w.heap.size w d/\Blk d ob 4 (bcells (inKeys ns))):=hid ⟨S.out.trans (t.out.1.below a.out.1 a.out.2.1),by
    have:=t.out.2;rw[show j=ns.length from by omega,List.take_length]at this;rw[I.out];exact this⟩
   clear t;go_wp2;go_ret;exact⟨ob,rfl,a.out.1,T.out⟩
def zk0 (s:Gr.Str) (a n ab:Nat) (w:World) (e:Ending) (w':World):Prop:=Kept1 ab w w'/\((∃v:Nat,numAt s a n=some v/\e=.returned (.tuple #[.int .i64 (v:Int),.bool true])/\Blk w' ab 3 #[.int .i64 ((a+n:Nat):Int)])\/(numAt s a n=none/\e=.returned (.tuple #[.int .i64 0,.bool false])/\∃a':Nat,a'<=s.length/\Blk w' ab 3 #[.int .i64 (a':Int)]))
theorem zs4 (s:Gr.Str) (hl:s.length<=1073741823) (ab sb a n:Nat) (j:Int) (hj:j=(n:Int)) (hn:n<=9) (ha:a<=s.length) (w:World) (hA:Blk w ab 3 #[.int .i64 (a:Int)]) (hS:Blk w sb 9 #[.string ⟨s.toArray⟩]):
 Calls prog 83 #[.int .i64 j,.pointer (some ⟨ab,0,none⟩),.pointer (some ⟨sb,0,none⟩)] w (zk0 s a n ab w):=by
 subst hj;have o:sb≠ab:=by
  intro e;subst e;have:=hA.symm.trans hS;simp at this
 have u:=hid hA;have t:=hid hS;clear hA hS;go_enter func83,ntmps83;go_wp2_with fail;go_loopw [6,8] (fun s6 s8 wr=>∃k v:Nat,k<=n/\v<=999999999/\a+k<=s.length/\s6=.int .i64 (v:Int)/\s8=.int .i64 (k:Int)/\Hid (((s.drop a).take k).all Gr.dig=true/\v=Gr.val ((s.drop a).take k)/\Blk wr ab 3 #[.int .i64 ((a+k:Nat):Int)]/\Kept1 ab w wr)) (fun _ s8 _=>n-(intOf s8).toNat)
 case atStart=>exact⟨0,0,by omega,by omega,by omega,rfl,rfl,hid ⟨by simp,by simp[Gr.val],u.out,Kept1.refl _ _⟩⟩
 case round=>
  obtain⟨k,v,hk,hv,hak,rfl,rfl,c⟩:=hrel;have qA:wr.cell? ⟨ab,0,none⟩=some (.int .i64 ((a+k:Nat):Int)):=c.out.2.2.1.cell 0;have qF:∀j,wr.frozen? ⟨ab,j,none⟩=false:=c.out.2.2.1.frozen;have qS:wr.cell? ⟨sb,0,none⟩=some (.string ⟨s.toArray⟩):=(c.out.2.2.2.blk t.out o).cell 0;by_cases hlt:k<n
  .have h:(k:Int)<(n:Int):=by omega
   by_cases hltS:a+k<s.length
   .have q:¬(s.length:Int)<=((a+k:Nat):Int):=by omega
    obtain⟨b,l⟩:∃b:Nat,(s[a+k]'hltS).toNat=b:=⟨_,rfl⟩
    have hbv:(((⟨s.toArray⟩:ByteArray)[a+k]'(by simpa[ByteArray.size]using hltS)).toNat:Int)=(b:Int):=by rw[<-l];rfl
    have hbl:b<256:=by rw[<-l];exact(s[a+k]'hltS).toNat_lt
    have d:=hid (zdx (s[a+k]'hltS) b l);clear l;by_cases h48:48<=b
    .have m:¬(b:Int)<48:=by omega
     have b48:(48:Int)<=(b:Int):=by omega
     by_cases h57:b<=57
     .have p:¬(57:Int)<(b:Int):=by omega
      have x:=hid (zcj s a k hltS);have f:Hid (((s.drop a).take (k+1)).all Gr.dig=true/\10*v+(b-48)=Gr.val ((s.drop a).take (k+1))):=hid (by
       rw[x.out,List.all_append,c.out.1,zbj,<-c.out.2.1,d.out.2];exact⟨by simp[d.out.1,h48,h57],rfl⟩)
      have r:10*v+(b-48)<=999999999:=by
       rw[f.out.2];have:=zkz _ f.out.1 (by simp;omega);omega
      have i:Hid (Blk (wr.setCell ⟨ab,0,none⟩ (.int .i64 (((a+k:Nat):Int)+1))) ab 3 #[.int .i64 ((a+(k+1):Nat):Int)]/\Kept1 ab w (wr.setCell ⟨ab,0,none⟩ (.int .i64 (((a+k:Nat):Int)+1)))):=hid ⟨by rw[show((a+(k+1):Nat):Int)=((a+k:Nat):Int)+1 from by omega];exact c.out.2.2.1.set_ 0 _,c.out.2.2.2.trans (Kept1.set 0 _)⟩;go_wp2;go_roundw
      case rel=>exact⟨k+1,10*v+(b-48),by omega,r,by omega,by exact congrArg (Value.int .i64) (by omega),by go_num,hid ⟨f.out.1,f.out.2,i.out.1,i.out.2⟩⟩
      case measure=>simp[intOf];omega
     .have p:(57:Int)<(b:Int):=by omega
      have g:=hid (zdk s a n k hlt hltS (by rw[d.out.1];simp[h57]));go_wp2;go_ret2;exact⟨c.out.2.2.2,.inr ⟨g.out,rfl,a+k,by omega,c.out.2.2.1⟩⟩
    .have m:(b:Int)<48:=by omega
     have g:=hid (zdk s a n k hlt hltS (by rw[d.out.1];simp[h48]));go_wp2;go_ret2;exact⟨c.out.2.2.2,.inr ⟨g.out,rfl,a+k,by omega,c.out.2.2.1⟩⟩
   .have q:(s.length:Int)<=((a+k:Nat):Int):=by omega
    have g:=hid (zc5 s a n (by omega));go_wp2;go_ret2;exact⟨c.out.2.2.2,.inr ⟨g.out,rfl,a+k,by omega,c.out.2.2.1⟩⟩
  .obtain rfl:k=n:=by omega
   have h:¬(k:Int)<(k:Int):=by omega
   have g:Hid (numAt s a k=some v):=hid (by rw[zia s a k (by omega) c.out.1,c.out.2.1]);clear hlt;go_wp2;go_ret2;exact⟨c.out.2.2.2,.inl ⟨v,g.out,rfl,c.out.2.2.1⟩⟩
def posAt (a first i:Nat):Nat:=if i=0 then a else a+first+3*(i-1)
def fldAt (s:Gr.Str) (a first:Nat) (c:Nat) (i:Nat):Option Nat:=if i=0 then numAt s a first else if isAt s (posAt a first i) (UInt8.ofNat c)=true then numAt s (posAt a first i+1) 2 else none
def mC (sh:Nat) (f:Nat->Nat) (nn z:Nat):Array Value:=#[.int .i64 (sh:Int),.int .i64 (f 0:Int),.int .i64 (f 1:Int),.int .i64 (f 2:Int),.int .i64 (f 3:Int),.int .i64 (f 4:Int),.int .i64 (f 5:Int),.int .i64 (f 6:Int),.int .i64 (f 7:Int),.int .i64 (nn:Int),.int .u8 (z:Int)]
def fset (f:Nat->Nat) (i v:Nat):Nat->Nat:=fun j=>if j=i then v else f j
theorem zx5 {sh nn z:Nat} {f:Nat->Nat} {i:Nat} (h:i<8) (v:Nat):(mC sh f nn z).setIfInBounds (1+i) (.int .i64 (v:Int))=mC sh (fset f i v) nn z:=by
 have:i=0\/i=1\/i=2\/i=3\/i=4\/i=5\/i=6\/i=7:=by omega
 rcases this with rfl|rfl|rfl|rfl|rfl|rfl|rfl|rfl<;>rfl
theorem zum {sh nn z:Nat} {f:Nat->Nat} {i:Nat} (h:i<8):(mC sh f nn z)[1+i]? =some (.int .i64 (f i:Int)):=by
 have:i=0\/i=1\/i=2\/i=3\/i=4\/i=5\/i=6\/i=7:=by omega
 rcases this with rfl|rfl|rfl|rfl|rfl|rfl|rfl|rfl<;>rfl
theorem zpn {a first i:Nat} (h:0<i):posAt a first (i+1)=posAt a first i+1+2:=by
 unfold posAt;rw[if_neg (by omega),if_neg (by omega)];omega
theorem zpo {a first:Nat}:posAt a first 1=a+first:=by simp[posAt]
theorem zv4 {s:Gr.Str} {p c b:Nat} (hp:p<s.length) (hb:(s[p]'hp).toNat=b) (hc:c<256) (h:b≠c):isAt s p (UInt8.ofNat c)=false:=by
 unfold isAt;rw[List.getElem?_eq_getElem hp];simp;intro e;apply h;rw[<-hb,e];simp;omega
theorem zk1 {s:Gr.Str} {p c b:Nat} (hp:p<s.length) (hb:(s[p]'hp).toNat=b) (h:b=c):isAt s p (UInt8.ofNat c)=true:=by
 unfold isAt;rw[List.getElem?_eq_getElem hp];subst h;rw[<-hb];simp
theorem zg6 {s:Gr.Str} {p:Nat} {c:UInt8} (hp:s.length<=p):isAt s p c=false:=by
 unfold isAt;rw[List.getElem?_eq_none hp];rfl
def KM (mb ab:Nat) (w w':World):Prop:=zbg w w' (fun k=>k=mb\/k=ab)
theorem KM.refl (mb ab:Nat) (w:World):KM mb ab w w:=⟨rfl,rfl,rfl,Nat.le_refl _,fun _ _ _=>rfl⟩
theorem KM.trans {mb ab:Nat} {a b c:World} (h:KM mb ab a b) (h2:KM mb ab b c):KM mb ab a c:=
 ⟨h2.os.trans h.os,h2.tape.trans h.tape,h2.output.trans h.output,Nat.le_trans h.size h2.size,fun k e d=>(h2.block k (Nat.lt_of_lt_of_le e h.size) d).trans (h.block k e d)⟩
theorem KM.ofA {mb ab:Nat} {a b:World} (h:Kept1 ab a b):KM mb ab a b:=⟨h.os,h.tape,h.output,Nat.le_of_eq h.size.symm,fun k _ c=>h.block k (fun e=>c (.inr e))⟩
theorem KM.ofM {mb ab:Nat} {a b:World} (h:Kept1 mb a b):KM mb ab a b:=⟨h.os,h.tape,h.output,Nat.le_of_eq h.size.symm,fun k _ c=>h.block k (fun e=>c (.inl e))⟩
theorem KM.blk {mb ab k:Nat} {a b:World} {t:TypeId} {cs:Array Value} (h:KM mb ab a b) (hb:Blk a k t cs) (h1:k≠mb) (h2:k≠ab):Blk b k t cs:=(h.block k hb.lt (by rintro(e|e);exact h1 e;exact h2 e)).trans hb
def FldPost (s:Gr.Str) (a first c o n mb ab sh:Nat) (f:Nat->Nat) (nn z:Nat) (w:World) (e:Ending) (w':World):Prop:=
 KM mb ab w w'/\∃f':Nat->Nat,Blk w' mb 97 (mC sh f' nn z)/\((e=.returned (.bool true)/\(∀j,j<n->fldAt s a first c j=some (f' (o+j)))/\(∀j,j<o\/o+n<=j->f' j=f j)/\Blk w' ab 3 #[.int .i64 (posAt a first n:Int)]/\posAt a first n<=s.length)\/(e=.returned (.bool false)/\(∃j,j<n/\fldAt s a first c j=none)/\∃p:Nat,p<=s.length/\Blk w' ab 3 #[.int .i64 (p:Int)]))
theorem zdy (s:Gr.Str) (hl:s.length<=1073741823) (ab sb fb mb a first c o n k:Nat) (sh:Nat) (f:Nat->Nat) (nn z:Nat) (j jc:Int) (hj:j=(first:Int)) (hjc:jc=(c:Int)) (hc:c<256) (hfirst:first<=9) (hn:n<=3) (hnk:n<=k) (hk:k<=8) (ho:o+n<=8) (O:Nat) (hO:O=1+o) (ha:a<=s.length) (w:World) (hA:Blk w ab 3 #[.int .i64 (a:Int)]) (hS:Blk w sb 9 #[.string ⟨s.toArray⟩]) (hF:Blk w fb 127 #[.func (.func 83) #[] #[.pointer (some ⟨ab,0,none⟩),.pointer (some ⟨sb,0,none⟩)]]) (hM:Blk w mb 97 (mC sh f nn z)):
 Calls prog 84 #[.slice (some ⟨mb,O,none⟩) n k,.int .i64 j,.int .u8 jc,.pointer (some ⟨ab,0,none⟩),.pointer (some ⟨sb,0,none⟩),.pointer (some ⟨fb,0,none⟩)] w (FldPost s a first c o n mb ab sh f nn z w):=by
 subst hj;subst hjc;subst hO;have Q:sb≠ab:=hS.ne_ hA (by decide);have P:sb≠mb:=hS.ne_ hM (by decide);have X:fb≠ab:=hF.ne_ hA (by decide);have T:fb≠mb:=hF.ne_ hM (by decide);have S:mb≠ab:=hM.ne_ hA (by decide);have HA:=hid hA;have HS:=hid hS;have M:=hid hF;have HM:=hid hM;have d:=hid (show(sb≠ab/\sb≠mb)/\(fb≠ab/\fb≠mb)/\mb≠ab from⟨⟨Q,P⟩,⟨X,T⟩,S⟩);clear hA hS hF hM Q P X T S;have ad:Hid (∀(W:World) (p q:Nat),q<=9->p<=s.length->Blk W ab 3 #[.int .i64 (p:Int)]->Blk W sb 9 #[.string ⟨s.toArray⟩]->Calls prog 83 #[.int .i64 (q:Int),.pointer (some ⟨ab,0,none⟩),.pointer (some ⟨sb,0,none⟩)] W (zk0 s p q ab W)):=hid (fun W p q hq V h1 h2=>zs4 s hl ab sb p q _ rfl hq V W h1 h2);go_enter func84,ntmps84;go_wp2_with fail;go_loopw [10,11,12,13,16] (fun s10 s11 s12 s13 s16 wr=>∃i:Nat,i<=n/\s16=.int .i64 (i:Int)/\Hid (∃f':Nat->Nat,KM mb ab w wr/\Blk wr mb 97 (mC sh f' nn z)/\(∀j,j<i->fldAt s a first c j=some (f' (o+j)))/\(∀j,j<o\/o+n<=j->f' j=f j)/\Blk wr ab 3 #[.int .i64 (posAt a first i:Int)]/\posAt a first i<=s.length)) (fun _ _ _ _ s16 _=>n-(intOf s16).toNat)
 case atStart=>exact⟨0,by omega,rfl,hid ⟨f,KM.refl _ _ _,HM.out,fun j hj=>absurd hj (by omega),fun _ _=>rfl,by simpa[posAt]using HA.out,by simpa[posAt]using ha⟩⟩
 case round=>
  obtain⟨i,hi,rfl,HV⟩:=hrel;obtain⟨f',C,U,R,ac,D,u⟩:=HV.out;obtain⟨p,V⟩:=ex (posAt a first i)
  rw[V]at D u;have qS:wr.cell? ⟨sb,0,none⟩=some (.string ⟨s.toArray⟩):=(C.blk HS.out d.out.1.2 d.out.1.1).cell 0;have qA:wr.cell? ⟨ab,0,none⟩=some (.int .i64 (p:Int)):=D.cell 0;have qAF:∀j,wr.frozen? ⟨ab,j,none⟩=false:=D.frozen;have qF:wr.cell? ⟨fb,0,none⟩=some (.func (.func 83) #[] #[.pointer (some ⟨ab,0,none⟩),.pointer (some ⟨sb,0,none⟩)]):=(C.blk M.out d.out.2.1.2 d.out.2.1.1).cell 0;have qF1:∀v,(wr.setCell ⟨ab,0,none⟩ v).cell? ⟨fb,0,none⟩=some (.func (.func 83) #[] #[.pointer (some ⟨ab,0,none⟩),.pointer (some ⟨sb,0,none⟩)]):=fun v=>((C.blk M.out d.out.2.1.2 d.out.2.1.1).far d.out.2.1.1 v).cell 0
  have G:=hid V;have m:Hid (KM mb ab w wr/\Blk wr mb 97 (mC sh f' nn z)/\(∀j,j<i->fldAt s a first c j=some (f' (o+j)))/\(∀j,j<o\/o+n<=j->f' j=f j)/\Blk wr ab 3 #[.int .i64 (p:Int)]/\Blk wr sb 9 #[.string ⟨s.toArray⟩]):=hid ⟨C,U,R,ac,D,C.blk HS.out d.out.1.2 d.out.1.1⟩;clear C U R ac D V HV;have t:Hid (∀(W:World) (q:Nat) (x:Option Nat),q<=s.length->x=none->fldAt s a first c i=x->i<n->KM mb ab wr W->Blk W mb 97 (mC sh f' nn z)->Blk W ab 3 #[.int .i64 (q:Int)]->FldPost s a first c o n mb ab sh f nn z w (.returned (.bool false)) W):=hid (fun W q x hq hx af aa J I K=>⟨m.out.1.trans J,f',I,.inr ⟨rfl,⟨i,aa,af.trans hx⟩,q,hq,K⟩⟩);have Z:Hid (∀(W:World) (v:Nat),fldAt s a first c i=some v->KM mb ab wr W->Blk W mb 97 (mC sh f' nn z)->Blk W ab 3 #[.int .i64 (posAt a first (i+1):Int)]->i<n->posAt a first (i+1)<=s.length->∃i':Nat,i'<=n/\Value.int .i64 ((i:Int)+1)=.int .i64 (i':Int)/\Hid (∃f'':Nat->Nat,KM mb ab w (W.setCell ⟨mb,1+o+i,none⟩ (.int .i64 (v:Int)))/\Blk (W.setCell ⟨mb,1+o+i,none⟩ (.int .i64 (v:Int))) mb 97 (mC sh f'' nn z)/\(∀j,j<i'->fldAt s a first c j=some (f'' (o+j)))/\(∀j,j<o\/o+n<=j->f'' j=f j)/\Blk (W.setCell ⟨mb,1+o+i,none⟩ (.int .i64 (v:Int))) ab 3 #[.int .i64 (posAt a first i':Int)]/\posAt a first i'<=s.length)):=hid (fun W v y J I K aa u=>by
   refine⟨i+1,by omega,rfl,hid ⟨fset f' (o+i) v,m.out.1.trans (J.trans (KM.ofM (Kept1.set _ _))),?_,?_,?_,?_,u⟩⟩
   .have:=I.set_ (1+o+i) (.int .i64 (v:Int));rw[show 1+o+i=1+(o+i)from by omega]at this ⊢;rwa[zx5 (by omega)]at this
   .intro j hj;by_cases e:j=i
    .subst e;rw[y];simp[fset]
    .rw[m.out.2.2.1 j (by omega)];simp[fset,e]
   .intro j hj;rw[<-m.out.2.2.2.1 j hj];unfold fset;rw[if_neg (by omega)]
   .exact K.far d.out.2.2.symm _)
  by_cases hlt:i<n
  .have L:(i:Int)<(n:Int):=by omega
   by_cases h0:i=0
   .have ae:(i:Int)=0:=by omega
    have ag:¬(0:Int)<(i:Int):=by omega
    subst h0;go_wp2_with fail;refine(ad.out _ p first hfirst u m.out.2.2.2.2.1 m.out.2.2.2.2.2).mono ?_;rintro e B ⟨h,⟨v,y,rfl,l⟩|⟨y,rfl,p2,hp2,l⟩⟩
    .have r:=h.blk m.out.2.1 d.out.2.2;have qm:B.cell? ⟨mb,1+o,none⟩=some (.int .i64 (f' o:Int)):=by rw[r.cell];exact zum (i:=o) (by omega)
     have ah:∀j,B.frozen? ⟨mb,j,none⟩=false:=r.frozen;have F:Hid (fldAt s a first c 0=some v/\Blk B ab 3 #[.int .i64 (posAt a first 1:Int)]/\posAt a first 1<=s.length):=hid (by
      have H:p=a:=by rw[<-G.out];rfl
      subst H;rw[zpo];exact⟨by simpa[fldAt]using y,l,(zcw y (by omega)).2.2⟩)
     have E:=hid (And.intro h r);clear h y l r;go_wp2;go_roundw
     case rel=>
      obtain⟨i',g1,g2,g3⟩:=Z.out B v F.out.1 (KM.ofA E.out.1) E.out.2 F.out.2.1 hlt F.out.2.2;exact⟨i',g1,by simpa using g2,g3⟩
     case measure=>simp[intOf];omega
    .have F:Hid (FldPost s a first c o n mb ab sh f nn z w (.returned (.bool false)) B):=hid (t.out B p2 _ hp2 rfl (by
      have H:p=a:=by rw[<-G.out];rfl
      subst H;simpa[fldAt]using y) hlt (KM.ofA h) (h.blk m.out.2.1 d.out.2.2) l)
     clear h y l;go_wp2;go_ret;exact F.out
   .have ae:¬(i:Int)=0:=by omega
    have ag:(0:Int)<(i:Int):=by omega
    by_cases hps:p<s.length
    .have N:¬(s.length:Int)<=(p:Int):=by omega
     obtain⟨b,hb⟩:∃b:Nat,(s[p]'hps).toNat=b:=⟨_,rfl⟩
     have hbv:(((⟨s.toArray⟩:ByteArray)[p]'(by simpa[ByteArray.size]using hps)).toNat:Int)=(b:Int):=by rw[<-hb];rfl
     have hbl:b<256:=by rw[<-hb];exact(s[p]'hps).toNat_lt
     have HB:=hid hb;clear hb;by_cases hbc:b=c
     .have Y:(b:Int)=(c:Int):=by omega
      go_wp2_with fail;refine(ad.out _ (p+1) 2 (by omega) (by omega) (m.out.2.2.2.2.1.set_ 0 _) (m.out.2.2.2.2.2.far d.out.1.1 _)).mono ?_;rintro e B ⟨h,⟨v,y,rfl,l⟩|⟨y,rfl,p2,hp2,l⟩⟩
      .have A:=(Kept1.set (g:=ab) (w:=wr) 0 (.int .i64 ((p+1:Nat):Int))).trans h;have r:=A.blk m.out.2.1 d.out.2.2;have qm:B.cell? ⟨mb,1+o+i,none⟩=some (.int .i64 (f' (o+i):Int)):=by rw[r.cell,show 1+o+i=1+(o+i)from by omega];exact zum (by omega)
       have ah:∀j,B.frozen? ⟨mb,j,none⟩=false:=r.frozen;have F:Hid (fldAt s a first c i=some v/\Blk B ab 3 #[.int .i64 (posAt a first (i+1):Int)]/\posAt a first (i+1)<=s.length):=hid (by
        rw[zpn (by omega),G.out];refine⟨?_,l,(zcw y (by omega)).2.2⟩;unfold fldAt;rw[if_neg h0,G.out,if_pos (zk1 hps HB.out hbc)];exact y)
       have E:=hid (And.intro A r);clear h A y l r;go_wp2;go_roundw
       case rel=>
        exact Z.out B v F.out.1 (KM.ofA E.out.1) E.out.2 F.out.2.1 hlt F.out.2.2
       case measure=>simp[intOf];omega
      .have A:=(Kept1.set (g:=ab) (w:=wr) 0 (.int .i64 ((p+1:Nat):Int))).trans h;have F:Hid (FldPost s a first c o n mb ab sh f nn z w (.returned (.bool false)) B):=hid (t.out B p2 _ hp2 rfl (by
        unfold fldAt;rw[if_neg h0,G.out,if_pos (zk1 hps HB.out hbc)];exact y) hlt (KM.ofA A) (A.blk m.out.2.1 d.out.2.2) l)
       clear h A y l;go_wp2;go_ret;exact F.out
     .have Y:¬(b:Int)=(c:Int):=by omega
      go_wp2;go_ret;exact t.out wr p _ u rfl (by unfold fldAt;rw[if_neg h0,G.out,zv4 hps HB.out hc hbc];rfl) hlt (KM.refl _ _ _) m.out.2.1 m.out.2.2.2.2.1
    .have N:(s.length:Int)<=(p:Int):=by omega
     go_wp2;go_ret;exact t.out wr p _ u rfl (by unfold fldAt;rw[if_neg h0,G.out,zg6 (by omega)];rfl) hlt (KM.refl _ _ _) m.out.2.1 m.out.2.2.2.2.1
  .obtain rfl:i=n:=by omega
   have L:¬(i:Int)<(i:Int):=by omega
   clear hlt;go_wp2;go_ret;exact⟨m.out.1,f',m.out.2.1,.inl ⟨rfl,m.out.2.2.1,m.out.2.2.2.1,by rw[G.out];exact m.out.2.2.2.2.1,by rw[G.out];exact u⟩⟩
end Go.Proofs.YtpjmhafmeieloabGreatDoor

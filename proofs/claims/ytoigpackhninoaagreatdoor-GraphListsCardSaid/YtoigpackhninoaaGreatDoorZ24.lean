import Derived.Test.YtoigpackhninoaaGreatDoorZ26
import Derived.Test.YtoigpackhninoaaGreatDoorZ25
namespace Go.Proofs.YtoigpackhninoaaGreatDoor
open Gr
open _root_.Go.Proofs.Tryz
open _root_.Go.Lib (hid)
set_option maxRecDepth 100000
set_option maxHeartbeats 16000000
open Go.RowKit
theorem zww (A:Option Addr) (c:Nat) (root:Int) (vs:List NV) (is:List Gr.Ni) (hz:Sz is) (w:World) (h:IAt w w.heap.size A vs is):
 Calls prog 12 #[.agg #[.slice A is.length c,.int .i64 root]] w fun e w'=>e=.returned (.bool (Gr.few is))/\Below w.heap.size w w':=by
 have H:=hid h;have HZ:=hid hz;obtain⟨u,q⟩:=ex (w.alloc (.cells #[.slice A is.length c,.int .i64 root] 24))
 have b1:Blk u w.heap.size 24 #[.slice A is.length c,.int .i64 root]:=by rw[<-q];exact Blk.new _ _ _
 have L1:Hid (Below w.heap.size w u):=hid (by rw[<-q];exact(Below.refl _ _).alloc (Nat.le_refl _) _);have T:u.cell? ⟨w.heap.size,0,none⟩=some (.slice A is.length c):=b1.cell 0;have J:=hid b1;have R:=hz.1;clear h b1 hz;go_enter func12,ntmps12;go_upto_region 1 with fail;(try rw[q]);clear q;by_cases h40:is.length<=40
 ·have F:¬(40:Int)<(is.length:Int):=by omega
  go_upto_region 5 with fail;clear T R;go_loopw [3,4,5] (fun s3 s4 s5 wr=>∃i:Nat,i<=is.length/\s5=.int .i64 i/\s3=.int .i64 (fsum is i:Nat)/\s4=.int .i64 (fbyt is i:Nat)/\fsum is i<=160*i/\fbyt is i<=100*i/\Hid (Below u.heap.size u wr/\∀j,j<i->∀(hj:j<is.length),is[j].text.length<=100/\is[j].keys.length<=80/\is[j].items.length<=80)) (fun _ _ s5 _=>is.length-(intOf s5).toNat)
  case atStart=>exact⟨0,by omega,rfl,rfl,rfl,by simp[fsum],by simp[fbyt],hid ⟨Below.refl _ _,fun j hj=>by omega⟩⟩
  case round=>
   obtain⟨i,hi,rfl,rfl,rfl,aa,af,E⟩:=hrel;have a:Hid (Below w.heap.size w wr):=hid (L1.out.trans (E.out.1.mono L1.out.size));have X:Hid (Blk wr w.heap.size 24 #[.slice A is.length c,.int .i64 root]):=hid (J.out.below E.out.1 J.out.lt);have T:wr.cell? ⟨w.heap.size,0,none⟩=some (.slice A is.length c):=X.out.cell 0;have t:=hid (fun h=>zrm (is:=is) (k:=i) h);have y:=hid (fun h=>zrn (is:=is) (k:=i) h);obtain⟨N,l⟩:=ex (fsum is i)
   obtain⟨M,g⟩:=ex (fbyt is i)
   rw[l]at aa t;rw[g]at af y;have U:=hid l;have W:=hid g;(try rw[l]);(try rw[g]);clear l g;by_cases hlt:i<is.length
   ·have G:(i:Int)<(is.length:Int):=by omega
    have K:is[i]∈is:=List.getElem_mem hlt;obtain⟨ac,ae,P⟩:=HZ.out.2 _ K;have o:=hid (zwu hlt);have r:Hid ((is[i].text.length<=100/\is[i].keys.length<=80/\is[i].items.length<=80)->∀j,j<i+1->∀(hj:j<is.length),is[j].text.length<=100/\is[j].keys.length<=80/\is[j].items.length<=80):=hid (fun h j hj ab=>by
     rcases Nat.lt_or_ge j i with h1|h1
     ·exact E.out.2 j h1 ab
     ·obtain rfl:j=i:=by omega
      exact h)
    have v:=hid (t.out hlt);have B:=hid (y.out hlt);obtain⟨ad,ks,Q,rfl,I,c0,c1,c2,c3,c4,r1,r2,r3,r4⟩:=(H.out.below a.out).node hlt;obtain⟨ka,kn,kc⟩:=ks;obtain⟨Y,S,V⟩:=Q;obtain⟨n,hn⟩:=ex (is[i])
    rw[hn]at c0 c1 c2 r2 r4 ac ae P o r v B;obtain rfl:kn=n.keys.length:=r2;obtain rfl:S=n.items.length:=r4;have hib:i<=40:=by omega
    clear hn K r1 r3 I t y;go_upto_region 8 with fail;obtain⟨x,s⟩:=ex (wr.alloc (.cells #[.int .i64 n.kind,.string ⟨n.text.toArray⟩,.bool n.ord,.slice ka n.keys.length kc,.slice Y n.items.length V] 35))
    obtain⟨O,z⟩:=ex wr.heap.size
    have f:Hid (Blk x O 35 #[.int .i64 n.kind,.string ⟨n.text.toArray⟩,.bool n.ord,.slice ka n.keys.length kc,.slice Y n.items.length V]/\Below wr.heap.size wr x):=hid (by rw[<-s,<-z];exact⟨Blk.new _ _ _,(Below.refl _ _).alloc (Nat.le_refl _) _⟩);(try rw[s]);(try rw[z]);have s1:x.cell? ⟨O,1,none⟩=some (.string ⟨n.text.toArray⟩):=f.out.1.cell 1;have s3:x.cell? ⟨O,3,none⟩=some (.slice ka n.keys.length kc):=f.out.1.cell 3;have s4:x.cell? ⟨O,4,none⟩=some (.slice Y n.items.length V):=f.out.1.cell 4;have m:Hid (Below u.heap.size u x/\Below w.heap.size w x):=hid ⟨E.out.1.trans (f.out.2.mono E.out.1.size),a.out.trans (f.out.2.mono a.out.size)⟩;clear s z c0 c1 c2 c3 c4 T;have C:(100:Int)<(n.text.length:Int)\/¬(100:Int)<(n.text.length:Int):=by omega
    have d:(80:Int)<(n.keys.length:Int)\/¬(80:Int)<(n.keys.length:Int):=by omega
    have D:(80:Int)<(n.items.length:Int)\/¬(80:Int)<(n.items.length:Int):=by omega
    rcases C with h1|h1
    ·have b:Hid (Gr.few is=false):=hid (o.out (by omega));clear d D;go_wp2;go_ret;exact⟨by rw[b.out]<;>rfl,m.out.2⟩
    ·rcases d with h2|h2
     ·have b:Hid (Gr.few is=false):=hid (o.out (by omega));clear D;go_wp2;go_ret;exact⟨by rw[b.out]<;>rfl,m.out.2⟩
     ·rcases D with h3|h3
      ·have b:Hid (Gr.few is=false):=hid (o.out (by omega));go_wp2;go_ret;exact⟨by rw[b.out]<;>rfl,m.out.2⟩
      ·have L:Hid (fsum is (i+1)<=160*(i+1)/\fbyt is (i+1)<=100*(i+1)):=hid (by rw[v.out,B.out];omega);have Z:=hid (r.out (by omega));go_wp2;go_roundw
       case rel=>exact⟨i+1,by omega,by go_num,by rw[v.out];go_num,by rw[B.out];go_num,L.out.1,L.out.2,hid ⟨m.out.1,Z.out⟩⟩
       case measure=>simp[intOf];omega
   ·have G:¬(i:Int)<(is.length:Int):=by omega
    have HE:Hid (Gr.few is=(decide (N<=240) && decide (M<=300))):=hid (by
     have:=zwv (k:=i) (by omega) h40 E.out.2;rwa[U.out,W.out]at this)
    have C:(N:Int)<=240\/¬(N:Int)<=240:=by omega
    have d:(M:Int)<=300\/¬(M:Int)<=300:=by omega
    rcases C with h1|h1
    ·rcases d with h2|h2
     ·have b:Hid (Gr.few is=true):=hid (by rw[HE.out,decide_eq_true (by omega),decide_eq_true (by omega)];rfl);go_wp2;go_ret;exact⟨by rw[b.out]<;>rfl,a.out⟩
     ·have b:Hid (Gr.few is=false):=hid (by rw[HE.out,decide_eq_false (p:=M<=300) (by omega)];simp);go_wp2;go_ret;exact⟨by rw[b.out]<;>rfl,a.out⟩
    ·have b:Hid (Gr.few is=false):=hid (by rw[HE.out,decide_eq_false (p:=N<=240) (by omega)];simp);clear d;go_wp2;go_ret;exact⟨by rw[b.out]<;>rfl,a.out⟩
 ·have F:(40:Int)<(is.length:Int):=by omega
  have b:Hid (Gr.few is=false):=hid (zwt h40);go_wp2;go_ret;exact⟨by rw[b.out]<;>rfl,L1.out⟩
structure TM (w wr:World) (gc:Array Value) (v:Value) (L:List Gr.Str):Prop where
 below:Below w.heap.size w wr
 gbox:Blk wr w.heap.size 24 gc
 own:OwnRow strL wr (w.heap.size+1) 9 v L
 hd:w.heap.size+1<=wr.heap.size
section
variable {w wr w2:World} {gc:Array Value} {v v':Value} {L L':List Gr.Str}
theorem TM.later (h:TM w wr gc v L) (hb:Below wr.heap.size wr w2):TM w w2 gc v L:=
 ⟨h.below.trans (hb.mono h.below.size),h.gbox.below hb h.gbox.lt,h.own.later hb,Nat.le_trans h.hd hb.size⟩
theorem TM.alloc (h:TM w wr gc v L) (o:Obj):TM w (wr.alloc o) gc v L:=h.later ((Below.refl _ _).alloc (Nat.le_refl _) _)
theorem TM.grown (h:TM w wr gc v L) (ho:OwnRow strL w2 (w.heap.size+1) 9 v' L') (hg:wr.grownBy w2 v.ownBlock):TM w w2 gc v' L':=
 ⟨h.below.trans ((h.own.grown_below hg h.hd).mono (by omega)),zbd h.gbox h.own hg (by omega),ho,Nat.le_trans h.hd (h.own.grown_below hg h.hd).size⟩
theorem TM.none (h:TM w wr gc v L):TM w wr gc (.slice none 0 0) []:=⟨h.below,h.gbox,OwnRow.nil,h.hd⟩
end
theorem zng (A:Option Addr) (c:Nat) (root:Int) (vs:List NV) (ns:List Gr.Nd) (P:Nat->Prop) (F b:Nat) (hok:PrOk ns P F b) (hnl:ns.length<=1000) (hks:∀n∈ns,∀k∈n.keys,k<ns.length/\P k/\Tall' ns F k) (w:World) (h:GAt w w.heap.size A vs ns):
 Calls prog 41 #[.agg #[.slice A ns.length c,.int .i64 root]] w fun e w'=>e=.returned (.bool (rtwice ns F))/\Below w.heap.size w w':=by
 have H:=hid h;have aq:=hid (znd A c root vs ns P F b hok hnl);have aj:=hid hok;obtain⟨gc,q⟩:∃gc:Array Value,#[.slice A ns.length c,.int .i64 root]=gc:=⟨_,rfl⟩
 have m:Hid (gc[0]? =some (.slice A ns.length c)/\gc[1]? =some (.int .i64 root)):=hid (by rw[<-q];exact⟨rfl,rfl⟩);obtain⟨w1,C⟩:=ex (w.alloc (.cells #[.slice A ns.length c,.int .i64 root] 24))
 have ag:Hid (TM w w1 gc (.slice none 0 0) []):=hid (by rw[<-C,<-q];exact⟨(Below.refl _ _).alloc (Nat.le_refl _) _,Blk.new _ _ _,OwnRow.nil,by simp⟩);clear h hok q;go_enter func41,ntmps41;go_upto_region 2 with fail;(try rw[C]);clear C;go_loopw [3] (fun s3 wr=>∃i:Nat,i<=ns.length/\s3=.int .i64 i/\Hid (TM w wr gc (.slice none 0 0) []/\∀j,j<i->∀(hj:j<ns.length),dupS (ns[j].keys.map (printF ns F))=false)) (fun s3 _=>ns.length-(intOf s3).toNat)
 case atStart=>exact⟨0,by omega,rfl,hid ⟨ag.out,fun j hj=>by omega⟩⟩
 case round=>
  obtain⟨i,hi,rfl,X⟩:=hrel;obtain⟨wq,am⟩:∃wq,wq=wr:=⟨_,rfl⟩
  subst am;have g0:wq.cell? ⟨w.heap.size,0,none⟩=some (.slice A ns.length c):=by rw[X.out.1.gbox.cell];exact m.out.1
  by_cases hlt:i<ns.length
  ·have J:(i:Int)<(ns.length:Int):=by omega
   have p:ns[i]∈ns:=List.getElem_mem hlt;obtain⟨ah,T,ak⟩:=aj.out.lens _ p;have N:=hid (hks _ p);obtain⟨z,ks,ae,rfl,D⟩:=H.out.node hlt;obtain⟨ka,kn,kc⟩:=ks;obtain⟨ia,inn,ic⟩:=ae;have M:=hid (zne (f:=F) hlt);have Q:Hid (dupS (ns[i].keys.map (printF ns F))=false->∀j,j<i+1->∀(hj:j<ns.length),dupS (ns[j].keys.map (printF ns F))=false):=hid (fun h j hj ao=>by
    rcases Nat.lt_or_ge j i with h1|h1
    ·exact X.out.2 j h1 ao
    ·obtain rfl:j=i:=by omega
     exact h)
   obtain⟨n,hn⟩:=ex (ns[i])
   rw[hn]at D ah T N M Q;obtain rfl:kn=n.keys.length:=D.kn;have Y:Hid (∀W,Below w.heap.size w W->W.cell? {block:=(z.add (i*5)).block,off:=(z.add (i*5)).off+3}=some (.slice ka n.keys.length kc)):=hid (fun W hW=>(hW.cell (by exact D.lt)).trans D.c3);have af:Hid (∀W,Below w.heap.size w W->RowAt intL W w.heap.size ka n.keys):=hid (fun W hW=>D.keys.below hW);have hib:i<=1000:=by omega
   clear D hn p T ak;go_upto_region 6 with fail;go_loopw [4,5] (fun s4 s5 wr=>∃(k:Nat) (L:List Gr.Str) (AL:Option Addr) (cL:Nat),k<=n.keys.length/\s5=.int .i64 k/\s4=.slice AL L.length cL/\Hid (TM w wr gc (.slice AL L.length cL) L/\L=(n.keys.map (printF ns F)).take k/\((n.keys.map (printF ns F)).take k).Nodup)) (fun _ s5 _=>n.keys.length-(intOf s5).toNat)
   case atStart=>exact⟨0,[],none,0,by omega,rfl,rfl,hid ⟨X.out.1,by simp,by simp⟩⟩
   case round=>
    obtain⟨k,L,AL,cL,hk,rfl,rfl,d⟩:=hrel;obtain⟨a,ar⟩:∃a,a=wr:=⟨_,rfl⟩
    subst ar;have g0:a.cell? ⟨w.heap.size,0,none⟩=some (.slice (some z) ns.length c):=by rw[d.out.1.gbox.cell];exact m.out.1
    have c3:=Y.out a d.out.1.below;have hkb:k<=1000:=by omega
    by_cases hlk:k<n.keys.length
    ·have Z:(k:Int)<(n.keys.length:Int):=by omega
     obtain⟨y,hy⟩:=ex (n.keys[k])
     obtain⟨S,rfl,_,y0⟩:=zae (af.out a d.out.1.below) hlk;rw[hy]at y0;obtain⟨K,ab,ac⟩:=N.out y (by rw[<-hy];exact List.getElem_mem hlk);obtain⟨t,ht⟩:=ex (printF ns F y)
     have B:Hid (k<(n.keys.map (printF ns F)).length):=hid (by simpa using hlk);have r:Hid (∀h:k<(n.keys.map (printF ns F)).length,(n.keys.map (printF ns F))[k]=t):=hid (fun h=>by rw[List.getElem_map,hy,ht]);have aa:Hid (∀x:WB a.heap.size a,Calls prog 68 #[.agg #[.slice (some z) ns.length c,.int .i64 root],.int .i64 y] x.w fun e w'=>e=.returned (.string ⟨t.toArray⟩)/\Below a.heap.size a w'):=hid (fun x=>by
      have hb:=(d.out.1.later x.h).below;rw[<-ht];exact(aq.out F y x.w (Nat.le_refl _) K ab ac ((H.out.below hb).more hb.size)).mono (fun _ _ ⟨e1,e2⟩=>⟨e1,x.h.trans (e2.mono x.h.size)⟩))
     have q0:∀x:WB a.heap.size a,x.w.cell? ⟨w.heap.size,0,none⟩=some (.slice (some z) ns.length c):=fun x=>by rw[(d.out.1.later x.h).gbox.cell];exact m.out.1
     have q1:∀x:WB a.heap.size a,x.w.cell? ⟨w.heap.size,1,none⟩=some (.int .i64 root):=fun x=>by rw[(d.out.1.later x.h).gbox.cell];exact m.out.2
     have q3:∀x:WB a.heap.size a,x.w.cell? {block:=(z.add (i*5)).block,off:=(z.add (i*5)).off+3}=some (.slice (some S) n.keys.length kc):=fun x=>Y.out x.w (d.out.1.later x.h).below
     have qy:∀x:WB a.heap.size a,x.w.cell? (S.add k)=some (.int .i64 (y:Int)):=fun x=>(x.h.cell (World.block_lt_of_cell? a _ y0)).trans y0
     clear hy K ab ac y0 ht;go_upto_region 8 with fail;refine zaa a.heap.size a (by kernel_rfl) (by kernel_rfl) (Below.refl _ _) ?_
     repeat (go_big_quiet_step (((first| (with_reducible refine Calls.grow (aa.out _))))))
     refine wpQuiet_nil ?_;rintro _ ⟨O,rfl⟩;obtain⟨w8,s⟩:=ex O.w
     have l:Hid (TM w w8 gc (.slice AL L.length cL) L):=hid (by rw[<-s];exact d.out.1.later O.h);(try rw[s]);clear s q0 q1 q3 qy g0 c3 aa;have hLb:L.length<=1000:=by rw[d.out.2.1,List.length_take];omega
     go_upto_region 10 with fail;go_loop [7] (fun s7=>∃j:Nat,j<=L.length/\s7=.int .i64 j/\Hid (t∉L.take j)) (fun s7=>L.length-(intOf s7).toNat)
     case atStart=>exact⟨0,by omega,rfl,hid (by simp)⟩
     case round=>
      obtain⟨j,hj,rfl,HJ⟩:=hrel;by_cases hlj:j<L.length
      ·have U:(j:Int)<(L.length:Int):=by omega
       obtain⟨u,E⟩:=ex (L[j])
       obtain⟨adl,rfl,_,l0⟩:=zuo (zlf l.out.own) hlj;rw[E]at l0;have hjb:j<=1000:=by omega
       by_cases hut:u=t
       ·have ap:((⟨u.toArray⟩:ByteArray)==⟨t.toArray⟩)=true:=by rw[zol];exact decide_eq_true hut
        have an:(@BEq.beq (List UInt8) _ u t)=true:=by rw[hut];exact beq_self_eq_true _
        have HF:Hid (rtwice ns F=true):=hid (M.out (zwq B.out (by
         rw[r.out,<-hut,<-E,<-d.out.2.1];exact List.getElem_mem hlj)))
        clear E hut;go_wp2;go_ret;exact⟨by rw[HF.out]<;>rfl,l.out.below⟩
       ·have ap:((⟨u.toArray⟩:ByteArray)==⟨t.toArray⟩)=false:=by rw[zol];exact decide_eq_false hut
        have an:(@BEq.beq (List UInt8) _ u t)=false:=by rw[beq_eq_false_iff_ne];exact hut
        have HN:Hid (t∉L.take (j+1)):=hid (by
         rw[List.take_succ_eq_append_getElem hlj,E];intro hm;rcases List.mem_append.1 hm with h1|h1
         ·exact HJ.out h1
         ·exact hut (List.mem_singleton.1 h1).symm)
        clear E hut;go_wp2;go_round
        case rel=>exact⟨j+1,by omega,by go_num,HN⟩
        case measure=>simp[intOf];omega
      ·have U:¬(j:Int)<(L.length:Int):=by omega
       have ai:Hid (t∉L):=hid (by have:=HJ.out;rwa[List.take_of_length_le (by omega)]at this);have o:Hid (w.heap.size+1<=w8.heap.size):=hid l.out.hd;have I:Hid (L++[t]=(n.keys.map (printF ns F)).take (k+1)/\((n.keys.map (printF ns F)).take (k+1)).Nodup):=hid ⟨by rw[List.take_succ_eq_append_getElem B.out,r.out,<-d.out.2.1],zj5 B.out d.out.2.2 (by rw[r.out,<-d.out.2.1];exact ai.out)⟩;go_wp2_with (at_builtin;go_must (refine zab _ rfl (.tmp 49) (.tmp 51) 96 9 16 rfl strT (w.heap.size+1) (.slice AL L.length cL) L rfl (l.out.own.alloc _) _ _ 1 [t] rfl (RowAt.lit1 _ _ rfl _ ?_) ?_ ?_ ?_))
       any_goals (first|rfl| (have:=o.out;omega)| (have:=o.out;simp;omega)| (rw[World.size_alloc];have:=o.out;omega))
       intro v' w5 g hg al;have V:Hid (TM w w5 gc v' (L++[t])):=hid ((l.out.alloc _).grown g hg);obtain⟨A5,c5,G,_⟩:=g.form;obtain⟨L5,R⟩:=ex (L++[t])
       rw[R]at V I G;subst G;clear g hg al R;go_wp2;go_roundw
       case rel=>exact⟨k+1,L5,A5,c5,by omega,by go_num,rfl,hid ⟨V.out,I.out⟩⟩
       case measure=>simp[intOf];omega
    ·have Z:¬(k:Int)<(n.keys.length:Int):=by omega
     have HE:Hid (TM w a gc (.slice none 0 0) []/\∀j,j<i+1->∀(hj:j<ns.length),dupS (ns[j].keys.map (printF ns F))=false):=hid ⟨d.out.1.none,Q.out (zx2 (k:=k) (by simp;omega) d.out.2.2)⟩;go_wp2;go_roundw
     case rel=>exact⟨i+1,by omega,by go_num,HE⟩
     case measure=>simp[intOf];omega
  ·have J:¬(i:Int)<(ns.length:Int):=by omega
   have HF:Hid (rtwice ns F=false):=hid (zrj (i:=i) (by omega) X.out.2);have HB:=hid X.out.1.below;go_wp2;go_ret;exact⟨by rw[HF.out]<;>rfl,HB.out⟩
theorem zf8 (A:Option Addr) (c:Nat) (root:Int) (vs:List NV) (is:List Gr.Ni) (hl:is.length<=1000) (hks:∀n∈is,n.keys.length<=1000/\n.items.length<=1000/\n.text.length<=1000) (w:World) (h:IAt w w.heap.size A vs is):
 Calls prog 15 #[.agg #[.slice A is.length c,.int .i64 root]] w fun e w'=>e=.returned (.int .i64 (rcheck sclX is root:Nat))/\Below w.heap.size w w':=by
 have H:=hid h;obtain⟨w1,s⟩:=ex (w.alloc (.cells #[.slice A is.length c,.int .i64 root] 24))
 have b1:Blk w1 w.heap.size 24 #[.slice A is.length c,.int .i64 root]:=by rw[<-s];exact Blk.new _ _ _
 have X:Hid (Below w.heap.size w w1):=hid (by rw[<-s];exact(Below.refl _ _).alloc (Nat.le_refl _) _);obtain⟨g0,g1⟩:=cells2 b1;have M:=hid b1;have E:¬(4096:Int)<(is.length:Int):=by omega
 have HW:=hid (zq7 A c root vs is (by omega) (fun n o=>by have:=hks n o;omega) w1 ((h.below X.out).more X.out.size));have j:Hid (rcheck sclX is root=if rwell sclX is root=false then 3 else if rtwice (is.map Gr.Ni.nd) is.length=true then 8 else if(depth (is.map Gr.Ni.nd) root.toNat).1>32 then 5 else 0):=hid (by unfold rcheck;rw[if_neg (by omega)]);have I:=hid (fun hs:rwell sclX is root=true=>znf zdk hs);obtain⟨wl,Q⟩:=ex (rwell sclX is root)
 rw[Q]at HW j I;clear h b1 Q;go_enter func15,ntmps15;go_upto_region 1 with fail;(try rw[s]);clear s;go_wp2_with fail;refine HW.out.mono ?_;rintro e w2 ⟨rfl,y⟩;have p:Hid (Below w.heap.size w w2):=hid (X.out.trans (y.mono X.out.size));have D:=M.out.below y M.out.lt;obtain⟨g0,g1⟩:=cells2 D;have G:=hid D;clear y D;cases wl with
 |false=>
  have B:Hid (rcheck sclX is root=3):=hid (by rw[j.out,if_pos rfl]);go_wp2;go_ret;exact⟨by rw[B.out]<;>rfl,p.out⟩
 |true=>
  obtain⟨r,rfl,P,t⟩:=I.out rfl;have a:=hid P;have z:Hid (∀W,Below w.heap.size w W->GAt W W.heap.size A vs (is.map Gr.Ni.nd)):=hid (fun W J=>((H.out.below J).more J.size).toG (zbu t).1);have q:Hid (∀n∈is.map Gr.Ni.nd,n.keys.length<=1000/\n.items.length<=1000/\n.text.length<=1000):=hid (fun n o=>by
   obtain⟨x,Z,rfl⟩:=List.mem_map.1 o;have:=hks x Z;simp only[Gr.Ni.nd,List.length_map];omega)
  have b:Hid (rcheck sclX is (r:Int)=if rtwice (is.map Gr.Ni.nd) is.length=true then 8 else if(depth (is.map Gr.Ni.nd) r).1>32 then 5 else 0):=hid (by rw[j.out,if_neg (by decide),Int.toNat_natCast]);clear HW j I hks P t;obtain⟨g,C⟩:=ex (is.map Gr.Ni.nd)
  have v:is.length=g.length:=by rw[<-C];simp
  rw[C]at a z q b;obtain⟨m,U⟩:=ex is.length
  have R:Hid (∀W,Below w.heap.size w W->Calls prog 41 #[.agg #[.slice A m c,.int .i64 r]] W fun e w'=>e=.returned (.bool (rtwice g m))/\Below W.heap.size W w'):=hid (fun W J=>by
   rw[<-U,v];refine zng A c (r:Int) vs g (fun u=>mkd (inKeys g) u=true) g.length 2000000000 ⟨a.out.refs,a.out.keep,a.out.ok,fun n o=>by have:=q.out n o;omega,fun f i hf Y hi=>a.out.plen (by omega) (fun x Z=>by have:=q.out x Z;omega) f i hf hi Y,by omega⟩ (by omega) ?_ W (z.out W J);intro n o k Y;have S:k∈allKeys g:=List.mem_flatMap.2 ⟨n,o,Y⟩;obtain⟨h1,h2⟩:=a.out.tall k S;exact⟨h1,a.out.key k S,h2⟩)
  have O:Hid (∀W,Below w.heap.size w W->Calls prog 23 #[.agg #[.slice A m c,.int .i64 r]] W fun e w'=>e=.returned (.tuple #[.int .i64 (depth g r).1,.bool (depth g r).2])/\Below W.heap.size W w'):=hid (fun W J=>by
   rw[<-U,v];exact znl A c r vs g a.out (by omega) (fun n o=>by have:=q.out n o;omega) W (z.out W J))
  rw[U]at g0 b G;(try rw[U]);obtain⟨d,hd⟩:=ex ((depth g r).1)
  obtain⟨dt,N⟩:=ex ((depth g r).2)
  rw[hd]at b;rw[hd,N]at O;obtain⟨tb,L⟩:=ex (rtwice g m)
  rw[L]at b R;clear C v U hd N L hl E;go_wp2_with fail;refine(R.out w2 p.out).mono ?_;rintro e w3 ⟨rfl,F⟩;have l:Hid (Below w.heap.size w w3):=hid (p.out.trans (F.mono p.out.size));have T:=G.out.below F G.out.lt;obtain⟨k0,k1⟩:=cells2 T;clear F T g0 g1;cases tb with
  |true=>
   have B:Hid (rcheck sclX is (r:Int)=8):=hid (by rw[b.out,if_pos rfl]);go_wp2;go_ret;exact⟨by rw[B.out]<;>rfl,l.out⟩
  |false=>
   go_wp2_with fail;refine(O.out w3 l.out).mono ?_;rintro e w4 ⟨rfl,K⟩;have V:Hid (Below w.heap.size w w4):=hid (l.out.trans (K.mono l.out.size));clear K k0 k1;by_cases hd32:32<d
   ·have B:Hid (rcheck sclX is (r:Int)=5):=hid (by rw[b.out,if_neg (by decide),if_pos hd32]);go_wp2;go_ret;exact⟨by rw[B.out]<;>rfl,V.out⟩
   ·have B:Hid (rcheck sclX is (r:Int)=0):=hid (by rw[b.out,if_neg (by decide),if_neg hd32]);go_wp2;go_ret;exact⟨by rw[B.out]<;>rfl,V.out⟩
def RCkOk (w:World) (g:Value) (chk:Nat):Prop:=∀W,Below w.heap.size w W->Calls prog 15 #[g] W fun e w'=>e=.returned (.int .i64 (chk:Nat))/\Below W.heap.size W w'
theorem RCkOk.later {w w':World} {g:Value} {chk:Nat} (h:RCkOk w g chk) (hb:Below w.heap.size w w'):RCkOk w' g chk:=fun W a=>h W (hb.trans (a.mono hb.size))
theorem zro (A:Option Addr) (n c:Nat) (root:Int) (chk:Nat) (w:World) (h:RCkOk w (.agg #[.slice A n c,.int .i64 root]) chk):
 Calls prog 52 #[.agg #[.slice A n c,.int .i64 root]] w fun e w'=>e=.returned (.tuple #[if chk=0 then .agg #[.slice A n c,.int .i64 root]else gZero,.int .i64 (chk:Nat)])/\Below w.heap.size w w':=by
 have C:=hid h;clear h;go_enter func52,ntmps52;go_upto_region 1 with fail;obtain⟨m,b⟩:=ex ((w.alloc (.cells #[.slice A n c,.int .i64 root] 24)).alloc (.cells #[.slice none 0 0,.int .i64 0] 24))
 obtain⟨o,a⟩:=ex w.heap.size
 have s:Blk m o 24 #[.slice A n c,.int .i64 root]:=by rw[<-b,<-a];exact(Blk.new _ _ _).alloc _
 have y:Blk m (o+1) 24 #[.slice none 0 0,.int .i64 0]:=by rw[<-b,<-a];have:=Blk.new (w.alloc (.cells #[.slice A n c,.int .i64 root] 24)) 24 #[.slice none 0 0,.int .i64 0];rwa[World.size_alloc]at this
 have u:Below o w m:=by rw[<-b,<-a];exact((Below.refl _ _).alloc (Nat.le_refl _) _).alloc (by simp) _
 have r:=hid u;have j:=hid a;have t:Hid (RCkOk m (.agg #[.slice A n c,.int .i64 root]) chk):=hid (C.out.later (by rw[a];exact u));have g:=hid s;have p:=hid y;obtain⟨B,z⟩:=cells2 s;(try rw[b]);(try rw[a]);clear b a s y u;go_wp2_with fail;refine(t.out m (Below.refl _ _)).mono ?_;rintro e x ⟨rfl,d⟩;have q:=g.out.below d g.out.lt;have f:=p.out.below d p.out.lt;have l:Hid (Below o w x):=hid (r.out.trans (d.mono (by have:=g.out.lt;omega)));obtain⟨k0,k1⟩:=cells2 q;obtain⟨d0,d1⟩:=cells2 f;have df:∀i,x.frozen? ⟨o+1,i,none⟩=false:=f.frozen;have k:=hid f;clear d q f B z;by_cases h0:chk=0
 ·subst h0;go_wp2_with fail;have e0:=((k.out.set_ 0 (.slice A n c)).set_ 1 (.int .i64 root)).cell 0;have e1:=((k.out.set_ 0 (.slice A n c)).set_ 1 (.int .i64 root)).cell 1;refine bodyPost_ret (v:=.tuple #[.agg #[.slice A n c,.int .i64 root],.int .i64 0]) (by rw[results_cell_tmp rfl];go_simp) rfl ⟨rfl,?_⟩;rw[j.out];exact(l.out.setCell (by simp) _).setCell (by simp) _
 ·have h0I:((chk:Int)==0)=false:=by rw[beq_eq_false_iff_ne];omega
  go_wp2_with fail;refine bodyPost_ret (v:=.tuple #[gZero,.int .i64 chk]) (by rw[results_cell_tmp rfl];go_simp;rfl) rfl ⟨by first|rfl|rw[if_neg h0],?_⟩;rw[j.out];exact(l.out.setCell (by simp) _).setCell (by simp) _
theorem ztv (sclr:Int->Gr.Str->Bool) (ns:List Gr.Nd) (root:Nat) (hr:Refs ns) (hroot:root<ns.length):checkI sclr (ns.map Gr.Nd.ni) (root:Int)=checkG sclr ns root:=by
 unfold checkI checkG;rw[List.length_map,zix,zq1 ns root hr hroot];by_cases h1:ns.length>4096
 ·rw[if_pos h1,if_pos h1]
 ·rw[if_neg h1,if_neg h1,if_neg (by simp;intro e;rw[e]at hroot;simp at hroot),Int.toNat_natCast]
theorem ztw (A:Option Addr) (n c chk:Nat) (w:World) (h:RCkOk w (.agg #[.slice A n c,.int .i64 0]) chk):
 Calls prog 52 #[.agg #[.slice A n c,.int .i64 0]] w fun e w'=>Below w.heap.size w w'/\∃A4 n4 c4,e=.returned (.tuple #[.agg #[.slice A4 n4 c4,.int .i64 0],.int .i64 (chk:Nat)])/\Hid ((chk=0->A4=A/\n4=n/\c4=c)/\(chk≠0->A4=none/\n4=0/\c4=0)):=by
 refine(zro _ _ _ _ _ w h).mono ?_;rintro e w' ⟨rfl,a⟩;refine⟨a,?_⟩;by_cases h0:chk=0
 ·exact⟨A,n,c,by rw[if_pos h0],hid ⟨fun _=>⟨rfl,rfl,rfl⟩,fun h=>absurd h0 h⟩⟩
 ·exact⟨none,0,0,by rw[if_neg h0];rfl,hid ⟨fun h=>absurd h h0,fun _=>⟨rfl,rfl,rfl⟩⟩⟩
theorem zyl (A:Option Addr) (c:Nat) (root:Int) (vs:List NV) (is:List Gr.Ni) (hl:is.length<=1000) (hks:∀n∈is,n.keys.length<=1000/\n.items.length<=1000/\n.text.length<=1000) (w:World) (h:IAt w w.heap.size A vs is):RCkOk w (.agg #[.slice A is.length c,.int .i64 root]) (checkI sclX is root):=fun W a=>by
 rw[<-zis sclX zdk];exact zf8 A c root vs is hl hks W ((h.below a).more a.size)
theorem zym {ns:List Gr.Nd} {root:Nat} (hr:Refs ns) (h0:root<ns.length) (hl:ns.length<=1000) (hks:∀n∈ns,n.keys.length<=1000/\n.items.length<=1000/\n.text.length<=1000) (A:Option Addr) (c:Nat) (vs:List NV) (W:World) (hG:GAt W W.heap.size A vs ns):
 RCkOk W (.agg #[.slice A ns.length c,.int .i64 (root:Nat)]) (checkG sclX ns root):=fun d a=>by
 have:=zf8 A c root vs (ns.map Gr.Nd.ni) (by simpa using hl) (fun n e=>by
  obtain⟨x,b,rfl⟩:=List.mem_map.1 e;have:=hks x b;simp only[Gr.Nd.ni,List.length_map];omega) d ((hG.below a).more a.size).toI
 rw[zis sclX zdk,ztv sclX ns root hr h0,List.length_map]at this;exact this
theorem zj6 {x:GArg} (hf:Gr.FewG x.p) (hc:x.chk sclX=0):Gr.GoodG x.p:=by
 obtain⟨h1,h2,d⟩:=zq4 hc;obtain⟨r,c,a,h0,b⟩:=zq5 d;exact⟨hf,b,by show x.root.toNat<x.is.length;rw[c];simpa using a⟩
theorem goods {l:List GArg} (hf:∀x∈l,Gr.FewG x.p) (hn:l.any (fun x=>x.chk sclX != 0)=false):∀g∈l.map GArg.p,Gr.GoodG g:=by
 intro g b;obtain⟨x,a,rfl⟩:=List.mem_map.1 b;rw[List.any_eq_false]at hn;exact zj6 (hf x a) (by simpa using hn x a)
structure ListOk (gs:List (List Gr.Ni×Int)):Prop where
 refs:Refs (listN gs)
 pos:0<(listN gs).length
 len:(listN gs).length<=1000
 each:∀n∈listN gs,n.keys.length<=1000/\n.items.length<=1000/\n.text.length<=1000
theorem ListOk.of {gs:List (List Gr.Ni×Int)} (h:∀g∈gs,Gr.GoodG g) (hl:gs.length<=6):ListOk gs:=by
 obtain⟨h1,h2,a,b⟩:=Gr.zlb gs h;rw[<-Gr.zdl]at a;refine⟨a,by rw[Gr.zdl];simp,by rw[Gr.zdl,List.length_cons];omega,fun n hn=>?_⟩;rw[Gr.zdl]at hn;rcases List.mem_cons.1 hn with rfl|hn
 ·simp;omega
 ·have:=b n hn;omega
theorem zrp (A:Option Addr) (c:Nat) (l:List GArg) (hl:l.length<=6) (hf:∀x∈l,Gr.FewG x.p) (w:World) (h:GsAt w w.heap.size A l):
 Calls prog 20 #[.slice A l.length c] w (zen sclX l w):=by
 go_enter func20,ntmps20;go_upto_region 4 with fail;obtain⟨w1,Q⟩:=ex (w.alloc (.cells #[.slice none 0 0,.int .i64 0] 24))
 obtain⟨b,m⟩:=ex w.heap.size
 have ae:w1.heap.size=b+1:=by rw[<-Q,<-m];simp
 have l1:Below b w w1:=by rw[<-Q,<-m];exact(Below.refl _ _).alloc (Nat.le_refl _) _
 have b1:Blk w1 b 24 #[.slice none 0 0,.int .i64 0]:=by rw[<-Q,<-m];exact Blk.new _ _ _
 obtain⟨w2,U⟩:=ex (w1.alloc (.cells #[.int .i64 9,.string ⟨#[]⟩,.bool false,.slice none 0 0,.slice none 0 0] 35))
 have ah:w2.heap.size=b+2:=by rw[<-U];simp[ae]
 have l2:Below (b+1) w1 w2:=by rw[<-U];exact(Below.refl _ _).alloc (by omega) _
 have b2:Blk w2 (b+1) 35 (rootC 9 false SV.nil SV.nil):=by rw[<-U,<-ae];exact Blk.new _ _ _
 obtain⟨f,M⟩:=ex (w2.alloc (.cells #[.int .i64 9,.string ⟨#[]⟩,.bool false,.slice none 0 0,.slice none 0 0] 35))
 have a5:f.heap.size=b+3:=by rw[<-M];simp[ah]
 have l3:Below (b+2) w2 f:=by rw[<-M];exact(Below.refl _ _).alloc (by omega) _
 have b3:Blk f (b+2) 35 #[.int .i64 9,.string ⟨(([]:Gr.Str)).toArray⟩,.bool false,.slice none 0 0,.slice none 0 0]:=by rw[<-M,<-ah];exact Blk.new _ _ _
 have aB:=Tab.one (B:=b+2) b3 (Nat.le_refl _);have ac:Below b w f:=(l1.trans (l2.mono (by omega))).trans (l3.mono (by omega));have aR:=hid ac;have ba:Hid (LsM f f (b+1) (.slice (some ⟨b+2,0,none⟩) 1 1) 9 false [] SV.nil SV.nil [] [] []):=hid ⟨Below.refl _ _,aB.row,aB.rows,b2.below l3 (by omega),by omega⟩;have aO:Hid (Blk f b 24 #[.slice none 0 0,.int .i64 0]):=hid ((b1.below l2 (by omega)).below l3 (by omega));have a6:Hid (GsAt f b A l):=hid (by have:=h.below (by rw[m];exact ac);rwa[m]at this);have an:Hid (∀x∈l,∀W,Below b f W->Calls prog 15 #[.agg #[.slice x.a x.is.length x.c,.int .i64 x.root]] W fun e w'=>e=.returned (.int .i64 (x.chk sclX:Nat))/\Below W.heap.size W w'):=hid (fun x F W hW=>by
  have bi:=hf x F;have h1:=bi.len;have aU:Below w.heap.size w W:=by rw[m];exact ac.trans hW
  exact zyl x.a x.c x.root x.vs x.is (Nat.le_trans h1 (by decide)) (fun y hy=>by have:=bi.each y hy;omega) W (((h.each x F).below aU).more aU.size) W (Below.refl _ _))
 have HF:=hid hf;have bf:=hid m;have a4:=hid a5;clear h hf l1 l2 l3 b1 b2 b3 aB ac a5;(try rw[m]);(try rw[Q]);(try rw[ae]);(try rw[U]);(try rw[ah]);(try rw[M]);(try rw[show b+1+1=b+2 from rfl]);clear Q m U ae M ah;go_loopw [5,6] (fun s5 s6 wr=>∃(j:Nat) (A1:Option Addr) (n1 c1:Nat) (vs1:List NV) (si:SV),j<=l.length/\s6=.int .i64 j/\s5=.slice A1 n1 c1/\Hid (LsM f wr (b+1) (.slice A1 n1 c1) 9 false vs1 SV.nil si [] (Gr.listI ((l.take j).map GArg.p)).1 (Gr.listI ((l.take j).map GArg.p)).2/\(l.take j).any (fun x=>x.chk sclX != 0)=false)) (fun _ s6 _=>l.length-(intOf s6).toNat)
 case atStart=>exact⟨0,_,_,_,_,_,by omega,rfl,rfl,hid ⟨ba.out,rfl⟩⟩
 case round=>
  obtain⟨j,A1,n1,c1,vs1,si,hj,rfl,rfl,V⟩:=hrel;obtain⟨wq,bJ⟩:∃wq,wq=wr:=⟨_,rfl⟩
  subst bJ;clear ba;have aM:Hid (Below (b+1) f wq):=hid V.out.1.below;have af:Hid (∀x∈l.take j,x∈l/\x.chk sclX=0):=hid (fun x F=>⟨List.mem_of_mem_take F,by have:=V.out.2;rw[List.any_eq_false]at this;simpa using this x F⟩);have O:Hid (Gr.LOk (Gr.listI ((l.take j).map GArg.p)) j):=hid (by
   have:=Gr.zlb ((l.take j).map GArg.p) (fun g hg=>by
    obtain⟨x,F,rfl⟩:=List.mem_map.1 hg;exact zj6 (HF.out x (af.out x F).1) (af.out x F).2)
   rwa[List.length_map,List.length_take,Nat.min_eq_left hj]at this)
  obtain⟨p,hp⟩:=ex (Gr.listI ((l.take j).map GArg.p))
  rw[hp]at V O;have bj:n1=vs1.length+1:=by
   obtain⟨A9,c9,e9,_⟩:=V.out.1.row.form;injection e9 with _ e9 _
  have aI:vs1.length=p.2.length:=by have:=V.out.1.rows.len;simpa using this
  have a3:=O.out.nl;have hnb:n1<=1000:=by omega
  have R:=O.out.il;have aF:Hid (n1=p.2.length+1/\vs1.length=p.2.length/\p.1.length=j):=hid ⟨by omega,aI,R⟩;by_cases hlt:j<l.length
  ·have aX:(j:Int)<(l.length:Int):=by omega
   obtain⟨x,F⟩:=ex (l[j])
   have ag:x∈l:=by rw[<-F];exact List.getElem_mem hlt
   obtain⟨ad,rfl,hadb,z0,z1⟩:=zk9 a6.out.row hlt;rw[F]at z0 z1;have HA:Hid (∀W,Below (b+1) f W->W.cell? (ad.add (j*2))=some (.slice x.a x.is.length x.c)/\W.cell? {block:=(ad.add (j*2)).block,off:=(ad.add (j*2)).off+1}=some (.int .i64 x.root)):=hid (fun W hW=>by
    have bc:(ad.add (j*2)).block<b+1:=by rw[zaz];omega
    exact⟨(hW.cell bc).trans z0,(hW.cell (by exact bc)).trans z1⟩)
   obtain⟨a0,a1⟩:=HA.out wq aM.out;have ay:=hid (an.out x ag wq (aM.out.mono (by omega)));have bA:=hid (HF.out x ag);have bH:Hid (IAt f b x.a x.vs x.is):=hid (a6.out.each x ag);have aw:Hid ((l.take (j+1)).any (fun x=>x.chk sclX != 0)=((l.take j).any (fun x=>x.chk sclX != 0) || x.chk sclX != 0)/\Gr.listI ((l.take (j+1)).map GArg.p)=Gr.lstepI p x.p):=hid (by
    rw[List.take_succ_eq_append_getElem hlt,List.any_append,F,List.map_append];refine⟨by simp,?_⟩;unfold Gr.listI at hp ⊢;rw[List.foldl_append,hp];rfl)
   have P:Hid (x.chk sclX≠0->l.any (fun x=>x.chk sclX != 0)=true):=hid (fun h=>zfl _ l j hlt (by rw[F];simpa using h));have aC:Hid (x.chk sclX=0->Gr.GoodG x.p/\∃r:Nat,x.root=(r:Int)/\r<x.is.length/\∀y∈x.is,∀u∈y.keys++y.items,0<=u):=hid (fun h=>⟨zj6 bA.out h,by
    obtain⟨_,_,h3⟩:=zq4 h;obtain⟨r,h4,h5,h6,_⟩:=zq5 h3;exact⟨r,h4,h5,h6⟩⟩)
   obtain⟨ck,J⟩:=ex (x.chk sclX)
   rw[J]at aw P aC ay;clear F ag J hp bj aI a3 R z0 z1 O af;go_wp2_with fail;refine ay.out.mono ?_;rintro e s ⟨rfl,a7⟩;have d:Hid (LsM f s (b+1) (.slice A1 n1 c1) 9 false vs1 SV.nil si [] p.1 p.2):=hid (V.out.1.later a7);have bE:Hid ((l.take j).any (fun x=>x.chk sclX != 0)=false):=hid V.out.2;clear a7 a0 a1 ay;by_cases h0:ck=0
   rotate_left
   ·have h0I:((ck:Int) != 0)=true:=by rw[bne_iff_ne];omega
    have bM:=hid (P.out h0);have q:=aO.out.below d.out.below (Nat.lt_succ_self b);obtain⟨d0,d1⟩:=cells2 q;have df:∀i,s.frozen? ⟨b,i,none⟩=false:=q.frozen;clear q;go_wp2_with fail;refine bodyPost_ret (v:=.tuple #[gZero,.int .i64 3]) (by rw[results_cell_tmp rfl];go_simp;rfl) rfl (And.intro ?_ (And.intro (fun _=>rfl) (fun hf=>?_)))
    ·rw[bf.out];exact((aR.out.trans (d.out.below.mono (Nat.le_succ _))).setCell (by simp) _).setCell (by simp) _
    ·rw[bM.out]at hf;cases hf
   ·subst h0;obtain⟨I,r,hr,bp,a9⟩:=aC.out rfl;have HGG:=hid I;have a2:x.is.length<=40:=I.len;have hr40:r<40:=by omega
    have HRR:=hid hr;have h0b:(((0:Nat):Int) != 0)=false:=rfl;obtain⟨gs,G⟩:=ex (x.is.map Gr.Ni.nd)
    have av:x.is.length=gs.length:=by rw[<-G];simp
    have bx:Hid (gs.length<=40):=hid (by omega);obtain⟨k,hk⟩:=ex (r+n1)
    have bo:(n1:Int)+(r:Int)=(k:Int):=by omega
    have hkb:k<=2000:=by omega
    have bw:IntKind.i64.wrap (k:Int)=(k:Int):=IntWalk.i64_in _ (by omega);have aP:Hid (Gr.lstepI p x.p=(p.1++[k],p.2++gs.map (shN n1))):=hid (by
     unfold Gr.lstepI GArg.p;rw[hr,Int.toNat_natCast,<-aF.out.1,G,hk])
    have bn:Hid (∀W,Below (b+1) f W->Calls prog 51 #[.slice x.a gs.length x.c,.int .i64 (n1:Nat)] W fun e w'=>∃A5 c5 us,e=.returned (.slice A5 us.length c5)/\Hid (us.length=gs.length)/\Tab W.heap.size w' (.slice A5 us.length c5) us (gs.map (shN n1))/\Below W.heap.size W w'):=hid (fun W hW=>by
     have bb:=hW.mono (Nat.le_succ b);have al:=((bH.out.below bb).more (by have:=bb.size;have:=a4.out;omega:b<=W.heap.size)).toG a9;rw[G]at al;have aY:=I.refs;have bL:=I.len;have hlen2:gs.length<=40:=by rw[<-av];exact bL
     rw[show x.p.1=x.is from rfl,G]at aY;refine(zm7 x.a x.c n1 x.vs gs (by omega) (fun n hn=>by
      rw[<-G]at hn;obtain⟨y,hy,rfl⟩:=List.mem_map.1 hn;have:=I.each y hy;simp only[Gr.Ni.nd,List.length_map];omega) (fun n hn u hu=>by have:=aY n hn u hu;omega) (by omega) W al).mono ?_
     rintro e w' ⟨v',us,rfl,ht,hb⟩;obtain⟨A5,c5,rfl,_⟩:=ht.at_;have Y:=ht.rows.len;rw[<-Y]at ht ⊢;exact⟨A5,c5,us,rfl,hid (by rw[Y,List.length_map]),ht,hb⟩)
    rw[hr,av]at HA;obtain⟨a0,a1⟩:=HA.out s d.out.below;obtain⟨C,bK,E⟩:=si;obtain⟨o,ar⟩:=ex p.1
    obtain⟨q2,bg⟩:=ex p.2
    rw[ar,bg]at d aP;obtain rfl:bK=o.length:=(SV.row (d.out.rows.own 0 true)).2;have bv:Hid (o.length<=1000):=hid (by rw[<-ar];have:=aF.out;omega);clear G hr bp a9 I hk ar bg aC P an av a2;have y4:s.cell? ⟨b+1,4,none⟩=some (.slice C o.length E):=d.out.box.cell 4;have aK:Below s.heap.size s (s.alloc (.cells #[.int .i64 (k:Int)] 3)):=(Below.refl _ _).alloc (Nat.le_refl _) _;have bC:(s.alloc (.cells #[.int .i64 (k:Int)] 3)).cell? ⟨b+1,4,none⟩=some (.slice C o.length E):=(d.out.box.alloc _).cell 4;have br:(s.alloc (.cells #[.int .i64 (k:Int)] 3)).cell? {block:=(ad.add (j*2)).block,off:=(ad.add (j*2)).off+1}=some (.int .i64 (r:Int)):=(aK.cell (World.block_lt_of_cell? s _ a1)).trans a1;have K:OwnRow intL (s.alloc (.cells #[.int .i64 (k:Int)] 3)).drew (b+1+1) 3 (.slice C o.length E) o:=(d.out.rows.own 0 true).alloc _;have S:RowAt intL (s.alloc (.cells #[.int .i64 (k:Int)] 3)).drew (s.heap.size+1) (some ⟨s.heap.size,0,none⟩) [k]:=RowAt.lit1 _ _ rfl _ rfl;have aV:o.length+[k].length<=1073741824:=by have:=bv.out;simp;omega
    have bd:b+1+1<=(s.alloc (.cells #[.int .i64 (k:Int)] 3)).drew.heap.size:=by have:=d.out.hd;simp;omega
    have ab:Hid (LsM f (s.alloc (.cells #[.int .i64 (k:Int)] 3)).drew (b+1) (.slice A1 n1 c1) 9 false vs1 SV.nil ⟨C,o.length,E⟩ [] o q2):=hid (d.out.later ((Below.refl _ _).alloc (Nat.le_refl _) _).drew);have T:some (b+1)≠(Value.slice C o.length E).ownBlock:=fun e=>by have:=((d.out.rows.own 0 true).lt (b+1) e.symm).1;omega
    clear aK;go_upto_region 8 with fail;go_cut [] (fun wx=>∃si',Hid (LsM f wx (b+1) (.slice A1 n1 c1) 9 false vs1 SV.nil si' [] (o++[k]) q2))
    case first=>
     go_region_law (refine zai _ rfl (.tmp 24) (.tmp 33) 33 3 8 rfl intT (b+1+1) (.slice C o.length E) o rfl K _ _ 1 [k] rfl S aV bd ?_;intro v' w2 D aa ak;obtain⟨A9,c9,aA,_⟩:=D.form;subst aA;have pf2:∀i,w2.frozen? ⟨b+1,i,none⟩=false:=(ab.out.box.grown aa T).frozen;have pc2:w2.cell? ⟨b+1,4,none⟩=some (.slice C o.length E):=(ab.out.box.grown aa T).cell 4;have bB:=hid (And.intro D (And.intro aa ak));clear D aa ak)
     all_goals
      go_wp2;go_meet;have h2:=bB.out;rw[show(o++[k]).length=o.length+1 from by simp]at h2;exact⟨⟨A9,o.length+1,c9⟩,hid (ab.out.growI (x:=⟨A9,o.length+1,c9⟩) h2.1 h2.2.1 h2.2.2)⟩
    case rest=>
     obtain⟨si',Z⟩:=hcut;clear y4 bC br K S aV bd T a0 a1 bw bo ab;obtain⟨a0,a1⟩:=HA.out wc Z.out.below;go_wp2_with fail;refine(bn.out wc Z.out.below).mono ?_;rintro e X ⟨A5,c5,us,rfl,Y,z,H⟩;have aS:=hid (Z.out.later H);have aT:=hid (And.intro z H);have aJ:RowAt nodeL X X.heap.size A5 us:=by
      obtain⟨A9,c9,aA,bm⟩:=z.row.form;injection aA with e1
      rw[e1];exact bm
     have bk:=hid aJ;clear H z aJ a0 a1;go_wp2_with (at_builtin;go_must (refine zab _ rfl (.tmp 36) (.tmp 44) 22 35 80 rfl nodeT (b+1+1) (.slice A1 n1 c1) (⟨9,[],false,SV.nil,SV.nil⟩::vs1) rfl aS.out.row _ _ c5 us rfl bk.out ?_ ?_ ?_))
     any_goals (first|rfl| (have:=aF.out;have:=Y.out;have:=bx.out;have:=aS.out.hd;simp;omega))
     intro v8 w8 L hg bI;obtain⟨A8,c8,bs,_⟩:=L.form;subst bs;have aH:=Z.out.push aT.out.2 aT.out.1.rows L hg;obtain⟨n8,au⟩:=ex (((⟨9,[],false,SV.nil,SV.nil⟩:NV)::(vs1++us)).length)
     rw[au]at aH;have bu:=hid aH;(try rw[au]);clear L hg bI au aH;go_wp2;go_roundw
     case rel=>exact⟨j+1,A8,n8,c8,vs1++us,si',by omega,by go_num,rfl,hid ⟨by rw[aw.out.2,aP.out];exact bu.out,by rw[aw.out.1,bE.out];rfl⟩⟩
     case measure=>simp[intOf];omega
  ·have aX:¬(j:Int)<(l.length:Int):=by omega
   have aj:Hid (l.any (fun x=>x.chk sclX != 0)=false):=hid (by have:=V.out.2;rwa[List.take_of_length_le (by omega)]at this);have aD:Hid (listN (l.map GArg.p)=⟨9,[],false,[],p.1⟩::p.2):=hid (by rw[Gr.zdl,<-hp,List.take_of_length_le (by omega)]);have ai:Hid (ListOk (l.map GArg.p)):=hid (ListOk.of (goods HF.out aj.out) (by simpa using hl));obtain⟨sa,sn,sc⟩:=si;obtain⟨g,c0,bz,bt,⟨g0,g1,g2,g3,g4⟩,am⟩:=V.out.1.fin;injection bz with e1 e2 e3
   subst e1 e2 e3;have aQ:=hid am;have a8:Blk wq (b+1) 35 #[.int .i64 9,.string ⟨#[]⟩,.bool false,.slice none 0 0,.slice sa sn sc]:=V.out.1.box;obtain⟨k0,k1,k2,k3,k4⟩:=cells5 a8;obtain⟨N,hN⟩:=ex (vs1.length+1)
   have hn0:(0:Int)<(N:Int):=by omega
   have bD:Hid (N=vs1.length+1):=hid hN.symm;rw[hN];clear hN am a8 hp bj aI a3 R O af an;go_upto_region 10 with fail;go_upto_region 11 with fail;obtain⟨X,ao⟩:=ex (((((wq.setCell ⟨g,0,none⟩ (.int .i64 9)).setCell ⟨g,1,none⟩ (.string ⟨#[]⟩)).setCell ⟨g,2,none⟩ (.bool false)).setCell ⟨g,3,none⟩ (.slice none 0 0)).setCell ⟨g,4,none⟩ (.slice sa sn sc))
   obtain⟨H,z⟩:=aQ.out X ao.symm;(try rw[ao]);clear ao k0 k1 k2 k3 k4 g0 g1 g2 g3 g4 bt;obtain⟨A5,c5,bl,aE⟩:=z.at_;injection bl with e1 e2 e3
   subst e1 e3;rw[<-aD.out]at aE;have aq:(listN (l.map GArg.p)).length=N:=by rw[aD.out,bD.out];exact e2.symm
   have J:=zym ai.out.refs ai.out.pos ai.out.len ai.out.each (some ⟨g,0,none⟩) c1 _ X aE;obtain⟨cz,aG⟩:=ex (checkG sclX (listN (l.map GArg.p)) 0)
   rw[aq,aG]at J;have bG:=hid aG;have aL:=hid (ztw (some ⟨g,0,none⟩) N c1 cz X J);have be:Hid (Below (b+1) f X):=hid H;have ax:=hid (And.intro z aq);clear H z aE aq J aG e2;go_wp2_with fail;refine aL.out.mono ?_;rintro e w6 ⟨ap,A4,n4,c4,rfl,aZ⟩;have az:Hid (Below (b+1) f w6/\Below X.heap.size X w6):=hid ⟨be.out.trans (ap.mono (by have:=be.out.size;have:=a4.out;omega)),ap⟩;have q:=aO.out.below az.out.1 (Nat.lt_succ_self b);have aW:=hid q;obtain⟨d0,d1⟩:=cells2 q;have df:∀i,w6.frozen? ⟨b,i,none⟩=false:=q.frozen;clear ap q aL;go_wp2_with fail;refine bodyPost_ret (v:=.tuple #[.agg #[.slice A4 n4 c4,.int .i64 0],.int .i64 cz]) (by rw[results_cell_tmp rfl];go_simp) rfl (And.intro ?_ (And.intro (fun h=>?_) (fun _=>?_)))
   ·rw[bf.out];exact((aR.out.trans (az.out.1.mono (Nat.le_succ _))).setCell (by simp) _).setCell (by simp) _
   ·rw[aj.out]at h;cases h
   ·rw[bG.out];refine⟨fun T=>?_,fun he=>?_⟩
    ·obtain⟨rfl,rfl,rfl⟩:=aZ.out.2 T;rfl
    ·obtain⟨rfl,rfl,rfl⟩:=aZ.out.1 he;subst he;have bh:∀t,t≠24->KeptT t X ((w6.setCell ⟨b,0,none⟩ (.slice (some ⟨g,0,none⟩) n4 c4)).setCell ⟨b,1,none⟩ (.int .i64 0)):=fun t ht=>(KeptT.later az.out.2).trans ((KeptT.setCell (p:=⟨b,0,none⟩) aW.out ht _).trans (KeptT.setCell (p:=⟨b,1,none⟩) (aW.out.set_ 0 _) ht _))
     have bq:Tab (b+1+1) _ _ _ _:=⟨ax.out.1.row.kept (bh _ (by decide)),ax.out.1.rows.kept (bh _ (by decide))⟩
     obtain⟨A7,c7,bF,aN⟩:=bq.at_;injection bF with e1 e2 e3
     subst e1 e3;rw[<-aD.out]at aN;exact⟨_,c4,_,by rw[ax.out.2];rfl,aN⟩
noncomputable def listL (l:List GArg):List Gr.Ni×Nat:=
 if l.any (fun x=>x.chk sclX != 0)=true then([],3)else if checkG sclX (listN (l.map GArg.p)) 0≠0 then([],checkG sclX (listN (l.map GArg.p)) 0)else((listN (l.map GArg.p)).map Gr.Nd.ni,0)
theorem zli {l:List GArg} {w w':World} {e:Ending} (h:zen sclX l w e w'):
 Below w.heap.size w w'/\∃A2 c2 vs2,e=.returned (.tuple #[.agg #[.slice A2 (listL l).1.length c2,.int .i64 0],.int .i64 ((listL l).2:Nat)])/\IAt w' w'.heap.size A2 vs2 (listL l).1:=by
 obtain⟨f,d,a⟩:=h;refine⟨f,?_⟩;unfold listL;by_cases hn:l.any (fun x=>x.chk sclX != 0)=true
 ·rw[if_pos hn];exact⟨none,0,[],d hn,inil _⟩
 ·rw[if_neg hn];rw[Bool.not_eq_true]at hn;by_cases hc:checkG sclX (listN (l.map GArg.p)) 0=0
  ·rw[if_neg (fun h=>h hc)];obtain⟨A2,c2,vs2,b,c⟩:=(a hn).2 hc;exact⟨A2,c2,vs2,by rw[b];simp,c.toI⟩
  ·rw[if_pos hc];exact⟨none,0,[],(a hn).1 hc,inil _⟩
theorem zt2 {l:List GArg} (hl:l.length<=6) (hf:∀x∈l,Gr.FewG x.p):
 Sz (listL l).1/\((listL l).2=0->∀A2 c2 vs2 W,UT W->IAt W W.heap.size A2 vs2 (listL l).1->ChkOk W (.agg #[.slice A2 (listL l).1.length c2,.int .i64 0]) 0):=by
 unfold listL;by_cases hn:l.any (fun x=>x.chk sclX != 0)=true
 ·rw[if_pos hn];exact⟨zur,fun h=>absurd h (by decide)⟩
 ·rw[if_neg hn];rw[Bool.not_eq_true]at hn;by_cases hc:checkG sclX (listN (l.map GArg.p)) 0=0
  ·rw[if_neg (fun h=>h hc)];obtain⟨f,c,b,a⟩:=ListOk.of (goods hf hn) (by simpa using hl);refine⟨zyq b a,fun _ A2 c2 vs2 W e d=>?_⟩;have:=ck_g f c b a A2 c2 vs2 W e (zx7 d);rw[hc]at this;rw[List.length_map];exact this
  ·rw[if_pos hc];exact⟨zur,fun h=>absurd h hc⟩
theorem zyr {x:GArg} (h:Gr.few x.is=true):Gr.FewG x.p:=⟨zwr h,fun y a=>zws h y a⟩
theorem zru (A:Option Addr) (c:Nat) (l:List GArg) (hl:l.length<=6) (hf:∀x∈l,Gr.FewG x.p) (w:World) (hT:UT w) (h:GsAt w w.heap.size A l):Calls prog 19 #[.slice A l.length c] w (zen sclX l w):=by
 have g:∀x∈l,∀y∈x.is,y.text.length<=100/\y.keys.length<=80/\y.items.length<=80:=fun x b=>(hf x b).each
 refine zlh UT UT.stays sclX A c l (by omega) (fun x b y d=>?_) (fun x b y d _ _ _ _ _ _=>?_) w hT h (fun x b=>?_) (fun r W q j f hT o=>?_)
 ·obtain⟨z,e,rfl⟩:=List.mem_map.1 d;have:=g x b z e;simp only[Gr.Ni.nd,List.length_map];omega
 ·obtain⟨z,e,rfl⟩:=List.mem_map.1 d;have:=g x b z e;exact zqk _ _ (by show z.text.length<=_;omega)
 ·have i:x.is.length<=40:=(hf x b).len;exact zyo x.a x.c x.root x.vs x.is (fun y d=>by have:=g x b y d;omega) (by omega) w hT (h.each x b)
 ·obtain⟨i,n,m,k⟩:=ListOk.of (goods hf r) (by simpa using hl);exact ck_g i n m k q j f W hT o
theorem zno (A:Option Addr) (c:Nat) (l:List GArg) (hz:∀x∈l,Sz x.is) (w:World) (hUT:UT w) (h:GsAt w w.heap.size A l):
 Calls prog 5 #[.slice A l.length c] w fun e w'=>e=.returned (.bool true)/\Below w.heap.size w w':=by
 have HT:Hid (∀W,Below w.heap.size w W->UT W):=hid (fun W z=>UT.stays _ _ hUT z);have HG:Hid (∀W,Below w.heap.size w W->GsAt W W.heap.size A l):=hid (fun W z=>(h.below z).more z.size);have D:Hid (∀W,Below w.heap.size w W->Calls prog 13 #[] W fun e w'=>e=.returned (.bool true)/\Below W.heap.size W w'):=hid (fun W z=>zrs W (UT.stays _ _ hUT z));have HZ:=hid hz;clear h hz hUT;go_enter func5,ntmps5;go_upto_region 2 with fail;go_loopw [3] (fun s3 wr=>∃j:Nat,j<=l.length/\j<=6/\s3=.int .i64 j/\Hid (Below w.heap.size w wr/\∀x∈l.take j,Gr.few x.is=true)) (fun s3 _=>l.length-(intOf s3).toNat)
 case atStart=>exact⟨0,by omega,by omega,rfl,hid ⟨Below.refl _ _,by simp⟩⟩
 case round=>
  obtain⟨j,hj,hj6,rfl,m⟩:=hrel;obtain⟨i,al⟩:∃i,i=wr:=⟨_,rfl⟩
  subst al;by_cases hlt:j<l.length
  ·have T:(j:Int)<(l.length:Int):=by omega
   by_cases h5:5<j
   ·have am:(5:Int)<(j:Int):=by omega
    go_wp2_with fail;refine(D.out i m.out.1).mono ?_;rintro e s ⟨rfl,d⟩;have u:Hid (Below w.heap.size w s):=hid (m.out.1.trans (d.mono m.out.1.size));clear d;go_wp2;go_ret;exact⟨rfl,u.out⟩
   ·have am:¬(5:Int)<(j:Int):=by omega
    obtain⟨ad,rfl,V,a0,a1⟩:=zk9 (HG.out i m.out.1).row hlt;obtain⟨x,Q⟩:=ex (l[j])
    have M:x∈l:=by rw[<-Q];exact List.getElem_mem hlt
    rw[Q]at a0 a1;have F:=hid (zww x.a x.c x.root x.vs x.is (HZ.out x M) i ((HG.out i m.out.1).each x M));have ai:Hid (Gr.few x.is=true->∀y∈l.take (j+1),Gr.few y.is=true):=hid (fun hf y hy=>by
     rw[List.take_succ_eq_append_getElem hlt,Q]at hy;rcases List.mem_append.1 hy with hy|hy
     ·exact m.out.2 y hy
     ·rw[List.mem_singleton.1 hy];exact hf)
    obtain⟨ak,C⟩:=ex (Gr.few x.is)
    rw[C]at F ai;clear Q M C V;go_wp2_with fail;refine F.out.mono ?_;rintro e s ⟨rfl,d⟩;have u:Hid (Below w.heap.size w s):=hid (m.out.1.trans (d.mono m.out.1.size));clear d a0 a1 F;cases ak with
    |false=>
     go_wp2_with fail;refine(D.out s u.out).mono ?_;rintro e B ⟨rfl,af⟩;have L4:Hid (Below w.heap.size w B):=hid (u.out.trans (af.mono u.out.size));clear af;go_wp2;go_ret;exact⟨rfl,L4.out⟩
    |true=>
     go_wp2;go_roundw
     case rel=>exact⟨j+1,by omega,by omega,by go_num,hid ⟨u.out,ai.out trivial⟩⟩
     case measure=>simp[intOf];omega
  ·have T:¬(j:Int)<(l.length:Int):=by omega
   have G:l.length<=6:=by omega
   have g:Hid (∀x∈l,Gr.FewG x.p):=hid (fun x Q=>zyr (m.out.2 x (by rw[List.take_of_length_le (by omega)];exact Q)));have L2:Hid (Below w.heap.size w i):=hid m.out.1;obtain⟨L,hL⟩:=ex ((listL l).1)
   obtain⟨no,v⟩:=ex ((listL l).2)
   have J:=zt2 G g.out;rw[hL,v]at J;have ac:=hid J;have H:Hid (Calls prog 19 #[.slice A l.length c] i fun e w'=>Below i.heap.size i w'/\∃A2 c2 vs2,e=.returned (.tuple #[.agg #[.slice A2 L.length c2,.int .i64 0],.int .i64 (no:Nat)])/\IAt w' w'.heap.size A2 vs2 L):=hid ((zru A c l G g.out i (HT.out i L2.out) (HG.out i L2.out)).mono (fun e w' hp=>by have:=zli hp;rwa[hL,v]at this));have HR:Hid (∀W,Below w.heap.size w W->Calls prog 20 #[.slice A l.length c] W fun e w'=>Below W.heap.size W w'/\∃A2 c2 vs2,e=.returned (.tuple #[.agg #[.slice A2 L.length c2,.int .i64 0],.int .i64 (no:Nat)])/\IAt w' w'.heap.size A2 vs2 L):=hid (fun W z=>(zrp A c l G g.out W (HG.out W z)).mono (fun e w' hp=>by have:=zli hp;rwa[hL,v]at this));clear hL v J g m;obtain⟨N,hN⟩:=ex L.length
   have aj:=hid hN;rw[hN]at H HR;clear hN;go_wp2_with fail;refine H.out.mono ?_;rintro e s ⟨d,A2,c2,vs2,rfl,aa⟩;have u:Hid (Below w.heap.size w s):=hid (L2.out.trans (d.mono L2.out.size));have Z:=hid aa;clear d H aa;obtain⟨gb,f⟩:=ex s.heap.size
   go_upto_region 7 with fail;obtain⟨B,q⟩:=ex (s.alloc (.cells #[.slice A2 N c2,.int .i64 0] 24))
   have l4:Below gb s B:=by rw[<-q,<-f];exact(Below.refl _ _).alloc (Nat.le_refl _) _
   have b4:Blk B gb 24 #[.slice A2 N c2,.int .i64 0]:=by rw[<-q,<-f];exact Blk.new _ _ _
   have ab:w.heap.size<=gb:=by rw[<-f];exact u.out.size
   have L4:Hid (Below w.heap.size w B):=hid (u.out.trans (l4.mono ab));have P:=hid b4;have ag:Hid (IAt B B.heap.size A2 vs2 L):=hid (by have:=Z.out.below (by rw[f];exact l4);exact this.more (by rw[f];have:=b4.lt;omega));(try rw[q]);(try rw[f]);clear q f l4 b4 ab Z;have ah:=hid (HR.out B L4.out);go_wp2_with fail;refine ah.out.mono ?_;rintro e r ⟨k,X,c3,K,rfl,Y⟩;have L5:Hid (Below w.heap.size w r):=hid (L4.out.trans (k.mono L4.out.size));have I:Hid (Blk r gb 24 #[.slice A2 N c2,.int .i64 0]):=hid (P.out.below k P.out.lt);have O:Hid (IAt r r.heap.size A2 vs2 L/\IAt r r.heap.size X K L):=hid ⟨(ag.out.below k).more k.size,Y⟩;clear k ah Y ag P HR;go_upto_region 8 with fail;obtain⟨gc,b⟩:=ex r.heap.size
   obtain⟨n,t⟩:=ex (r.alloc (.cells #[.slice X N c3,.int .i64 0] 24))
   have R:Below gc r n:=by rw[<-t,<-b];exact(Below.refl _ _).alloc (Nat.le_refl _) _
   have b6:Blk n gc 24 #[.slice X N c3,.int .i64 0]:=by rw[<-t,<-b];exact Blk.new _ _ _
   have L6:Hid (Below w.heap.size w n):=hid (L5.out.trans (R.mono (by rw[<-b];exact L5.out.size)));have b5:=I.out.below (by rw[b];exact R) I.out.lt;obtain⟨r0,r1⟩:=cells2 b5;obtain⟨r2,r3⟩:=cells2 b6;have o:IAt n n.heap.size A2 vs2 L/\IAt n n.heap.size X K L:=by
    have hs:=R.size;exact⟨(O.out.1.below (by rw[b];exact R)).more hs,(O.out.2.below (by rw[b];exact R)).more hs⟩
   have E:=zrt A2 X c2 c3 0 (no:Nat) vs2 K L ac.out.1 n o.1 o.2 (fun h=>ac.out.2 (by omega) A2 c2 vs2 n (HT.out n L6.out) o.1);rw[aj.out]at E;have ae:=hid E;(try rw[b]);(try rw[t]);clear t b R b6 b5 o E I O;go_wp2_with fail;refine ae.out.mono ?_;rintro e w7 ⟨rfl,U⟩;have L7:Hid (Below w.heap.size w w7):=hid (L6.out.trans (U.mono L6.out.size));clear U r0 r1 r2 r3 ae;go_wp2_with fail;refine(D.out w7 L7.out).mono ?_;rintro e w8 ⟨rfl,S⟩;have L8:Hid (Below w.heap.size w w8):=hid (L7.out.trans (S.mono L7.out.size));clear S;go_wp2;go_ret;exact⟨rfl,L8.out⟩
end Go.Proofs.YtoigpackhninoaaGreatDoor

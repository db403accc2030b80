import Derived.Test.YtoigpackhninoaaGreatDoorZ18
import Derived.Test.YtoigpackhninoaaGreatDoorZ12
namespace Go.Proofs.YtoigpackhninoaaGreatDoor
open Gr
open _root_.Go.Proofs.Tryz
open _root_.Go.Lib (hid)
set_option maxRecDepth 100000
set_option maxHeartbeats 16000000
open Go.RowKit
structure RB (w wr:World) (gc:Array Value) (m:List Bool) (v:Value) (L:List Nat):Prop where
 below:Below w.heap.size w wr
 box:Blk wr w.heap.size 24 gc
 met:Blk wr (w.heap.size+1) 4 (bcells m)
 own:OwnRow intL wr (w.heap.size+2) 3 v L
 hd:w.heap.size+2<=wr.heap.size
section
variable {w wr w2:World} {gc:Array Value} {m:List Bool} {v v':Value} {L L':List Nat}
theorem RB.later (h:RB w wr gc m v L) (hb:Below wr.heap.size wr w2):RB w w2 gc m v L:=
 ⟨h.below.trans (hb.mono (by have:=h.hd;omega)),h.box.below hb h.box.lt,h.met.below hb h.met.lt,h.own.later hb,Nat.le_trans h.hd hb.size⟩
theorem RB.alloc (h:RB w wr gc m v L) (o:Obj):RB w (wr.alloc o) gc m v L:=h.later ((Below.refl _ _).alloc (Nat.le_refl _) _)
theorem RB.mark (h:RB w wr gc m v L) (i:Nat) (b:Bool):RB w (wr.setCell ⟨w.heap.size+1,i,none⟩ (.bool b)) gc (m.set i b) v L:=
 ⟨h.below.setCell (by simp) _,h.box.far (by simp) _,by rw[<-zby];exact h.met.set_ i _,h.own.setCell (fun e=>absurd (h.own.lt _ e).1 (by simp)) _,by have:=h.hd;simp[World.setCell];omega⟩
theorem RB.grown (h:RB w wr gc m v L) (ho:OwnRow intL w2 (w.heap.size+2) 3 v' L') (hg:wr.grownBy w2 v.ownBlock):RB w w2 gc m v' L':=
 ⟨h.below.trans ((h.own.grown_below hg h.hd).mono (by omega)),zbd h.box h.own hg (by omega),zbd h.met h.own hg (by omega),ho,Nat.le_trans h.hd (h.own.grown_below hg h.hd).size⟩
theorem zd1 {w:World} {base:Nat} {E:TypeId} {A:Option Addr} {c n:Nat} {l:List Nat} (h:OwnRow intL w base E (.slice A n c) l):RowAt intL w w.heap.size A l/\n=l.length:=by
 obtain⟨A',c',b,a⟩:=h.form;injection b with e1 e2 e3
 subst e1;exact⟨a,e2⟩
end
theorem ztk {w:World} {base:Nat} {E:TypeId} {v u u':Value} {l:List Nat} (h:v.ownBlock=none\/v.ownBlock≠u.ownBlock) (hN:OwnRow intL w base E v l) (hat:u'.ownBlock=u.ownBlock\/u'.ownBlock=some w.heap.size):v.ownBlock=none\/v.ownBlock≠u'.ownBlock:=by
 rcases hat with e|e
 ·rw[e];exact h
 ·rw[e];cases e2:v.ownBlock with
  |none=>exact .inl rfl
  |some k=>
   right;intro a;injection a with a
   have:=(hN.lt k e2).2;omega
theorem zqy {w w2:World} {base:Nat} {E:TypeId} {v u:Value} {l m:List Nat} (hN:OwnRow intL w2 w.heap.size E v l) (hL:OwnRow intL w base E u m):v.ownBlock=none\/v.ownBlock≠u.ownBlock:=by
 cases e2:v.ownBlock with
 |none=>exact .inl rfl
 |some k=>
  right;intro a;have:=(hN.lt k e2).1;have:=(hL.lt k a.symm).2;omega
theorem zfh (w:World):OwnRow intL (w.alloc (.cells #[] 3)).drew w.heap.size 3 (.slice (some ⟨w.heap.size,0,none⟩) ([]:List Nat).length 0) []:=by
 refine⟨by simp[Lay.all],.inr ⟨w.heap.size,0,#[],rfl,Nat.le_refl _,heap_alloc_new w _,Nat.le_refl _,by simp[maxLen],by simp,by simp[Lay.all]⟩⟩
theorem zd2 (A:Option Addr) (c a:Nat) (root:Int) (vs:List NV) (ns:List Gr.Nd) (hr:Refs ns) (hl:ns.length<=1000) (hks:∀n∈ns,n.keys.length<=1000/\n.items.length<=1000) (ha:a<ns.length)
 (w:World) (h:GAt w w.heap.size A vs ns):
 Calls prog 53 #[.agg #[.slice A ns.length c,.int .i64 root],.int .i64 a] w fun e w'=>∃ob,e=.returned (.slice (some ⟨ob,0,none⟩) ns.length ns.length)/\w.heap.size<=ob/\Below w.heap.size w w'/\Blk w' ob 4 (bcells (marks ns a)):=by
 have H:=hid h;have hmk:=fun W=>zb0 ns.length (by omega) W
 have haI:(a:Int)<(ns.length:Int):=by omega
 clear h;go_enter func53,ntmps53;go_upto_region 2 with fail;obtain⟨w2,s⟩:=ex ((w.alloc (.cells #[.slice A ns.length c,.int .i64 root] 24)).alloc (.cells (bcells (List.replicate ns.length false)) 4))
 have l2:Below w.heap.size w w2:=by rw[<-s];exact((Below.refl _ _).alloc (Nat.le_refl _) _).alloc (by simp) _
 have bg:Blk w2 w.heap.size 24 #[.slice A ns.length c,.int .i64 root]:=by rw[<-s];exact(Blk.new _ _ _).alloc _
 have bo:Blk w2 (w.heap.size+1) 4 (bcells (List.replicate ns.length false)):=by
  rw[<-s];have:=Blk.new (w.alloc (.cells #[.slice A ns.length c,.int .i64 root] 24)) 4 (bcells (List.replicate ns.length false));rw[World.size_alloc]at this;exact this
 have aI:w2.heap.size=w.heap.size+2:=by rw[<-s];simp
 have z0:w2.cell? ⟨w.heap.size+1,a,none⟩=some (.bool false):=by
  rw[bo.cell,zah (by simpa using ha)];simp[List.getD_eq_getElem?_getD,ha]
 have zf:∀i,w2.frozen? ⟨w.heap.size+1,i,none⟩=false:=bo.frozen;rw[s];clear s;go_upto_region 3 with fail;obtain⟨Y,r⟩:=ex (w2.setCell ⟨w.heap.size+1,a,none⟩ (.bool true))
 have b3:Blk Y (w.heap.size+1) 4 (bcells ((List.replicate ns.length false).set a true)):=by rw[<-r,<-zby];exact bo.set_ a _
 have ah:Blk Y w.heap.size 24 #[.slice A ns.length c,.int .i64 root]:=by rw[<-r];exact bg.far (by simp) _
 have l3:Below w.heap.size w Y:=by rw[<-r];exact l2.setCell (by simp) _
 have ax:Y.heap.size=w.heap.size+2:=by rw[<-r];simpa[World.setCell]using aI
 rw[r];clear r l2 bg bo z0 zf aI;go_upto_region 4 with fail;obtain⟨gc,ab⟩:∃gc:Array Value,#[.slice A ns.length c,.int .i64 root]=gc:=⟨_,rfl⟩
 have aO:Hid (gc[0]? =some (.slice A ns.length c)):=hid (by rw[<-ab];rfl);rw[ab]at ah;have HB:Hid (RB w (Y.alloc (.cells #[.int .i64 a] 3)) gc ((List.replicate ns.length false).set a true) (.slice (some ⟨Y.heap.size,0,none⟩) 1 1) [a]):=hid
  ⟨l3.alloc (by omega) _,ah.alloc _,b3.alloc _,OwnRow.lit1 (by omega) a _ rfl,by simp;omega⟩
 have aB:Hid (Bfs (Gr.succ ns) ns.length a ((List.replicate ns.length false).set a true) [a] 0 []):=hid (Bfs.start ha);obtain⟨m0,X⟩:=ex ((List.replicate ns.length false).set a true)
 obtain⟨w4,af⟩:=ex (Y.alloc (.cells #[.int .i64 a] 3))
 obtain⟨lb,ac⟩:=ex (w.heap.size+2)
 rw[X,af,ax,ac]at HB;rw[X]at aB;(try rw[af]);(try rw[ac]);clear ab l3 ah b3 ax X af ac;go_upto_region 5 with fail;go_loopw [6,7] (fun s6 s7 wr=>∃(i:Nat) (m:List Bool) (L:List Nat) (A1:Option Addr) (c1:Nat),i<=L.length/\s7=.int .i64 i/\s6=.slice A1 L.length c1/\Hid (RB w wr gc m (.slice A1 L.length c1) L/\Bfs (Gr.succ ns) ns.length a m L i [])) (fun _ s7 _=>ns.length-(intOf s7).toNat)
 case atStart=>exact⟨0,m0,[a],some ⟨lb,0,none⟩,1,by simp,rfl,rfl,hid ⟨HB.out,aB.out⟩⟩
 case round=>
  obtain⟨i,m,L,A1,c1,hi,rfl,rfl,t⟩:=hrel;obtain⟨R,aV⟩:∃R,R=wr:=⟨_,rfl⟩
  subst aV;have HLN:Hid (L.length<=ns.length):=hid t.out.2.len_le;by_cases hil:i<L.length
  ·have aE:(i:Int)<(L.length:Int):=by omega
   obtain⟨u,hu⟩:=ex (L[i])
   have T:u<ns.length:=by rw[<-hu];exact t.out.2.lt _ (List.getElem_mem hil)
   obtain⟨B,rfl,_,y0⟩:=zae (zd1 t.out.1.own).1 hil;rw[hu]at y0;have HU:Hid (L[i]? =some u):=hid (by rw[<-hu];exact List.getElem?_eq_getElem hil);obtain⟨J,k,i2,rfl,C⟩:=(H.out.below t.out.1.below).node T;obtain⟨ka,kn,kc⟩:=k;obtain⟨K,aN,ic⟩:=i2;have V:ns[u]∈ns:=List.getElem_mem T;obtain⟨aT,ak⟩:=hks _ V;have G:Hid (Gr.succ ns u=ns[u].keys++ns[u].items/\∀x∈ns[u].keys++ns[u].items,x<ns.length):=hid ⟨zc7 T,hr _ V⟩;obtain⟨n,hn⟩:=ex (ns[u])
   rw[hn]at C G aT ak;obtain rfl:kn=n.keys.length:=C.kn;obtain rfl:aN=n.items.length:=C.inn;have x0:=C.c0;have x1:=C.c1;have x2:=C.c2;have x3:=C.c3;have x4:=C.c4;have g0:R.cell? ⟨w.heap.size,0,none⟩=some (.slice (some J) ns.length c):=by rw[t.out.1.box.cell];exact aO.out
   have hunI:(u:Int)<(ns.length:Int):=by omega
   have aC:Hid (RowAt intL R w.heap.size ka n.keys/\RowAt intL R w.heap.size K n.items):=hid ⟨C.keys,C.items⟩;clear C V hn hu;go_upto_region 7 with fail;go_cut [8] (fun s8 wx=>∃g8,s8=.pointer (some ⟨g8,0,none⟩)/\Hid (Blk wx g8 35 #[.int .i64 n.kind,.string ⟨n.text.toArray⟩,.bool n.ord,.slice ka n.keys.length kc,.slice K n.items.length ic]/\Below R.heap.size R wx))
   case first=>
    go_region_held3 (fun w'=>w'.cell? ⟨w.heap.size,0,none⟩=some (.slice (some J) ns.length c)/\w'.cell? (B.add i)=some (.int .i64 u)/\
     w'.cell? (J.add (u*5))=some (.int .i64 n.kind)/\w'.cell? {block:=(J.add (u*5)).block,off:=(J.add (u*5)).off+1}=some (.string ⟨n.text.toArray⟩)/\w'.cell? {block:=(J.add (u*5)).block,off:=(J.add (u*5)).off+2}=some (.bool n.ord)/\
     w'.cell? {block:=(J.add (u*5)).block,off:=(J.add (u*5)).off+3}=some (.slice ka n.keys.length kc)/\w'.cell? {block:=(J.add (u*5)).block,off:=(J.add (u*5)).off+4}=some (.slice K n.items.length ic))
      (first|go_keep| (simp[go_sem])) (fail)
    all_goals
     go_wp2;go_meet
    exact⟨R.heap.size,rfl,hid ⟨Blk.new _ _ _,((Below.refl _ _).alloc (Nat.le_refl _) _).drew⟩⟩
   case rest=>
    obtain⟨g8,rfl,f⟩:=hcut;have N:Hid (RB w wc gc m (.slice (some B) L.length c1) L/\Bfs (Gr.succ ns) ns.length a m L i []):=hid ⟨t.out.1.later f.out.2,t.out.2⟩;have s3:wc.cell? ⟨g8,3,none⟩=some (.slice ka n.keys.length kc):=f.out.1.cell 3;have s4:wc.cell? ⟨g8,4,none⟩=some (.slice K n.items.length ic):=f.out.1.cell 4;clear x0 x1 x2 x3 x4 g0 y0;go_upto_region 8 with fail;obtain⟨d,aJ⟩:∃d,d=wc:=⟨_,rfl⟩
    subst aJ;go_cut [9] (fun s9 wx=>∃A2 c2,s9=.slice A2 (n.keys.length+n.items.length) c2/\Hid (OwnRow intL wx d.heap.size 3 (.slice A2 (n.keys.length+n.items.length) c2) (n.keys++n.items)/\Below d.heap.size d wx))
    case first=>
     have s3a:(d.alloc (.cells #[] 3)).cell? ⟨g8,3,none⟩=some (.slice ka n.keys.length kc):=(f.out.1.alloc _).cell 3;have s4a:(d.alloc (.cells #[] 3)).cell? ⟨g8,4,none⟩=some (.slice K n.items.length ic):=(f.out.1.alloc _).cell 4;have y:OwnRow intL (d.alloc (.cells #[] 3)).drew d.heap.size 3 (.slice (some ⟨d.heap.size,0,none⟩) ([]:List Nat).length 0) []:=zfh d;have aa:Below w.heap.size R (d.alloc (.cells #[] 3)).drew:=by
      have:=t.out.1.below.size;exact below_drewN ((f.out.2.mono this).alloc (Nat.le_trans this f.out.2.size) _) 1
     have aA:RowAt intL (d.alloc (.cells #[] 3)).drew w.heap.size ka n.keys:=aC.out.1.below aa;have S:RowAt intL (d.alloc (.cells #[] 3)).drew w.heap.size K n.items:=aC.out.2.below aa;have ae:Hid (d.heap.size<=(d.alloc (.cells #[] 3)).drew.heap.size/\w.heap.size<=d.heap.size/\g8<d.heap.size):=hid ⟨by simp,Nat.le_trans t.out.1.below.size f.out.2.size,f.out.1.lt⟩;have ap:Hid (Blk (d.alloc (.cells #[] 3)).drew g8 35 #[.int .i64 n.kind,.string ⟨n.text.toArray⟩,.bool n.ord,.slice ka n.keys.length kc,.slice K n.items.length ic]/\RowAt intL (d.alloc (.cells #[] 3)).drew w.heap.size K n.items):=hid ⟨f.out.1.alloc _,S⟩;have aX:([]:List Nat).length+n.keys.length<=1073741824:=by simp;omega
     have aM:n.keys.length+n.items.length<=1073741824:=by omega
     have ag:=ae.out.1;clear aa S;go_region_law (first
      | (refine zai _ rfl (.tmp 34) (.tmp 36) 33 3 8 rfl intT d.heap.size (.slice (some ⟨d.heap.size,0,none⟩) ([]:List Nat).length 0) [] rfl y _ _ kc n.keys rfl aA aX ag ?_;intro v1 w1 l ay al;rw[List.nil_append]at l;obtain⟨A8,c8,aP,_⟩:=l.form;subst aP;have I:=y.grown_below ay ag;have s41:w1.cell? ⟨g8,4,none⟩=some (.slice K n.items.length ic):=(ap.out.1.below I ae.out.2.2).cell 4;have an:RowAt intL w1 w.heap.size K n.items:=ap.out.2.below (I.mono ae.out.2.1);have au:d.heap.size<=w1.heap.size:=Nat.le_trans ag I.size;have aL:=hid I;clear ay al I)
      | (refine zai _ rfl (.tmp 37) (.tmp 39) 33 3 8 rfl intT d.heap.size (.slice A8 n.keys.length c8) n.keys rfl l _ _ ic n.items rfl an aM au ?_;intro v2 w2 p ao aq;obtain⟨A9,c9,av,_⟩:=p.form;rw[List.length_append]at av;subst av;have aU:Hid (OwnRow intL w2 d.heap.size 3 (.slice A9 (n.keys.length+n.items.length) c9) (n.keys++n.items)/\Below d.heap.size d w2):=hid ⟨p,(below_drewN ((Below.refl _ _).alloc (Nat.le_refl _) _) 1).trans (aL.out.trans (l.grown_below ao au))⟩;clear p ao aq))
     all_goals
      go_wp2;go_meet;exact⟨A9,c9,rfl,aU⟩
    case rest=>
     obtain⟨A2,c2,rfl,HN⟩:=hcut;have aK:Hid (RB w wc gc m (.slice (some B) L.length c1) L):=hid (N.out.1.later HN.out.2);have aG:Hid ((Value.slice A2 (n.keys.length+n.items.length) c2).ownBlock=none\/(Value.slice A2 (n.keys.length+n.items.length) c2).ownBlock≠(Value.slice (some B) L.length c1).ownBlock):=hid (zqy HN.out.1 N.out.1.own);have aD:Hid (OwnRow intL wc (w.heap.size+2) 3 (.slice A2 (n.keys.length+n.items.length) c2) (n.keys++n.items)):=hid (HN.out.1.lower N.out.1.hd);obtain⟨D,P⟩:=ex (n.keys++n.items)
     obtain⟨q,Q⟩:=ex (n.keys.length+n.items.length)
     have hnn:D.length=q:=by rw[<-P,<-Q];simp
     have hnb:q<=2000:=by omega
     rw[Q,P]at aD;rw[Q]at aG;rw[P]at G;(try rw[Q]);clear HN P s3 s4;go_upto_region 10 with fail;go_loopw [6,10] (fun s6 s10 wr=>∃(k:Nat) (m:List Bool) (L:List Nat) (A1:Option Addr) (c1:Nat),k<=q/\s10=.int .i64 k/\s6=.slice A1 L.length c1/\Hid (RB w wr gc m (.slice A1 L.length c1) L/\Bfs (Gr.succ ns) ns.length a m L i (D.take k)/\L[i]? =some u/\OwnRow intL wr (w.heap.size+2) 3 (.slice A2 q c2) D/\((Value.slice A2 q c2).ownBlock=none\/(Value.slice A2 q c2).ownBlock≠(Value.slice A1 L.length c1).ownBlock))) (fun _ s10 _=>q-(intOf s10).toNat)
     case atStart=>exact⟨0,m,L,some B,c1,by omega,rfl,rfl,hid ⟨aK.out,by simpa using N.out.2,HU.out,aD.out,aG.out⟩⟩
     case round=>
      obtain⟨k,M,o,A3,c3,hk,rfl,rfl,g⟩:=hrel;by_cases hlk:k<q
      ·have ar:(k:Int)<(q:Int):=by omega
       have F:k<D.length:=by omega
       obtain⟨x,hx⟩:=ex (D[k])
       obtain⟨E,rfl,hb3,y0⟩:=zae (zd1 g.out.2.2.2.1).1 F;rw[hx]at y0;have aS:x<ns.length:=G.out.2 x (by rw[<-hx];exact List.getElem_mem F);have hxI:(x:Int)<(ns.length:Int):=by omega
       have aR:Hid (x∈Gr.succ ns u):=hid (by rw[G.out.1,<-hx];exact List.getElem_mem F);have aw:Hid (D.take (k+1)=D.take k++[x]):=hid (by rw[List.take_succ_eq_append_getElem F,hx]);have aW:=g.out.2.1.ml;obtain⟨b,hb⟩:=ex (M.getD x false)
       have z0:wr.cell? ⟨w.heap.size+1,x,none⟩=some (.bool b):=by rw[g.out.1.met.cell,zah (by omega),hb]
       have zf:∀j,wr.frozen? ⟨w.heap.size+1,j,none⟩=false:=g.out.1.met.frozen;have hkb:k<=2000:=by omega
       clear aW;cases b with
       |true=>
        have am:Hid (Bfs (Gr.succ ns) ns.length a M o i (D.take (k+1))):=hid (by rw[aw.out];exact g.out.2.1.old hb);clear hb;go_wp2;go_roundw
        case rel=>exact⟨k+1,M,o,A3,c3,by omega,by go_num,rfl,hid ⟨g.out.1,am.out,g.out.2.2⟩⟩
        case measure=>simp[intOf];omega
       |false=>
        have aj:Hid (Bfs (Gr.succ ns) ns.length a (M.set x true) (o++[x]) i (D.take (k+1))):=hid (by rw[aw.out];exact g.out.2.1.new g.out.2.2.1 aR.out aS hb);obtain⟨wm,O⟩:=ex (wr.setCell ⟨w.heap.size+1,x,none⟩ (.bool true))
        have HM:Hid (RB w wm gc (M.set x true) (.slice A3 o.length c3) o/\OwnRow intL wm (w.heap.size+2) 3 (.slice (some E) q c2) D):=hid ⟨by rw[<-O];exact g.out.1.mark x true,by rw[<-O];exact g.out.2.2.2.1.setCell (fun e=>absurd (g.out.2.2.2.1.lt _ e).1 (by simp)) _⟩;have y1:wm.cell? (E.add k)=some (.int .i64 x):=by
         obtain⟨ad4,e4,_,y4⟩:=zae (zd1 HM.out.2).1 F;injection e4 with e4
         subst e4;rw[hx]at y4;exact y4
        have Z:Hid (o.length+1<=1001/\w.heap.size+2<=wm.heap.size):=hid ⟨by have:=g.out.2.1.len_le;omega,HM.out.1.hd⟩;clear hb hx;go_upto_region 14 with fail;(try rw[O]);clear O z0 zf y0;go_wp2_with (at_builtin;go_must (refine zab _ rfl (.tmp 61) (.tmp 66) 33 3 8 rfl intT (w.heap.size+2) (.slice A3 o.length c3) o rfl (HM.out.1.own.alloc _) _ _ 1 [x] rfl (RowAt.lit1 _ _ rfl _ ?_) ?_ ?_ ?_))
        any_goals (first|rfl| (have:=Z.out;omega)| (have:=Z.out;simp;omega)| (rw[World.size_alloc];have:=Z.out;omega))
        intro v' w5 z hg aF;have U:Hid (RB w w5 gc (M.set x true) v' (o++[x])/\OwnRow intL w5 (w.heap.size+2) 3 (.slice (some E) q c2) D/\((Value.slice (some E) q c2).ownBlock=none\/(Value.slice (some E) q c2).ownBlock≠v'.ownBlock)):=hid ⟨(HM.out.1.alloc _).grown z hg,World.ownsRow.kept (HM.out.2.alloc _) hg g.out.2.2.2.2,ztk g.out.2.2.2.2 (HM.out.2.alloc (.cells #[.int .i64 x] 3)) (by rw[World.size_alloc];exact aF)⟩;have aH:Hid ((o++[x])[i]? =some u):=hid (by
         have h1:=g.out.2.2.1;rw[List.getElem?_append_left]
         ·exact h1
         ·rcases Nat.lt_or_ge i o.length with h2|h2
          ·exact h2
          ·rw[List.getElem?_eq_none h2]at h1;cases h1)
        obtain⟨A5,c5,ai,_⟩:=z.form;obtain⟨L5,az⟩:=ex (o++[x])
        rw[az]at aj U aH ai;subst ai;clear z hg aF az;go_wp2;go_roundw
        case rel=>exact⟨k+1,M.set x true,L5,A5,c5,by omega,by go_num,rfl,hid ⟨U.out.1,aj.out,aH.out,U.out.2⟩⟩
        case measure=>simp[intOf];omega
      ·have ar:¬(k:Int)<(q:Int):=by omega
       have HE:Hid (RB w wr gc M (.slice A3 o.length c3) o/\Bfs (Gr.succ ns) ns.length a M o (i+1) []):=hid ⟨g.out.1,g.out.2.1.next g.out.2.2.1 (by rw[G.out.1,List.take_of_length_le (by omega)])⟩;have aQ:i+1<=o.length:=by
        have h1:=g.out.2.2.1;rcases Nat.lt_or_ge i o.length with h2|h2
        ·exact h2
        ·rw[List.getElem?_eq_none h2]at h1;cases h1
       have hln:=g.out.2.1.len_le;have hib:i<=2000:=by omega
       go_wp2;go_roundw
       case rel=>exact⟨i+1,M,o,A3,c3,aQ,by go_num,rfl,HE⟩
       case measure=>simp[intOf];omega
  ·have aE:¬(i:Int)<(L.length:Int):=by omega
   have HE:Hid (m=marks ns a):=hid (t.out.2.marks hr ha (by omega));go_wp2;go_ret;exact⟨w.heap.size+1,rfl,by omega,t.out.1.below,by rw[<-HE.out];exact t.out.1.met⟩
end Go.Proofs.YtoigpackhninoaaGreatDoor

import Derived.Test.YtpjmhafmeieloaaGreatDoorZ21
import Derived.Test.YtpjmhafmeieloaaGreatDoorZ12
import Derived.StillTailTactics
namespace Go.Proofs.YtpjmhafmeieloaaGreatDoor
open Gr
open _root_.Go.Proofs.Tryz
open _root_.Go.Lib (hid)
set_option maxRecDepth 100000
set_option maxHeartbeats 16000000
open Go.RowKit
structure RB (w wr:World) (gc:Array Value) (m:List Bool) (v:Value) (L:List Nat):Prop where
 below:Below w.heap.size w wr
 box:Blk wr w.heap.size 24 gc
 met:Blk wr (w.heap.size+1) 4 (bcells m)
 own:OwnRow intL wr (w.heap.size+2) 3 v L
 hd:w.heap.size+2<=wr.heap.size
section
variable {w wr w2:World} {gc:Array Value} {m:List Bool} {v v':Value} {L L':List Nat}
theorem RB.later (h:RB w wr gc m v L) (hb:Below wr.heap.size wr w2):RB w w2 gc m v L:=
 ⟨h.below.trans (hb.mono (by have:=h.hd;omega)),h.box.below hb h.box.lt,h.met.below hb h.met.lt,h.own.later hb,Nat.le_trans h.hd hb.size⟩
theorem RB.alloc (h:RB w wr gc m v L) (o:Obj):RB w (wr.alloc o) gc m v L:=h.later ((Below.refl _ _).alloc (Nat.le_refl _) _)
theorem RB.mark (h:RB w wr gc m v L) (i:Nat) (b:Bool):RB w (wr.setCell ⟨w.heap.size+1,i,none⟩ (.bool b)) gc (m.set i b) v L:=
 ⟨h.below.setCell (by simp) _,h.box.far (by simp) _,by rw[<-zbz];exact h.met.set_ i _,h.own.setCell (fun e=>absurd (h.own.lt _ e).1 (by simp)) _,by have:=h.hd;simp[World.setCell];omega⟩
theorem RB.grown (h:RB w wr gc m v L) (ho:OwnRow intL w2 (w.heap.size+2) 3 v' L') (hg:wr.grownBy w2 v.ownBlock):RB w w2 gc m v' L':=
 ⟨h.below.trans ((h.own.grown_below hg h.hd).mono (by omega)),zbg h.box h.own hg (by omega),zbg h.met h.own hg (by omega),ho,Nat.le_trans h.hd (h.own.grown_below hg h.hd).size⟩
theorem zd8 {w:World} {base:Nat} {E:TypeId} {A:Option Addr} {c n:Nat} {l:List Nat} (h:OwnRow intL w base E (.slice A n c) l):RowAt intL w w.heap.size A l/\n=l.length:=by
 obtain⟨A',c',a,b⟩:=h.form;injection a with e1 e2 e3
 subst e1;exact⟨b,e2⟩
end
theorem zty {w:World} {base:Nat} {E:TypeId} {v u u':Value} {l:List Nat} (h:v.ownBlock=none\/v.ownBlock≠u.ownBlock) (hN:OwnRow intL w base E v l) (hat:u'.ownBlock=u.ownBlock\/u'.ownBlock=some w.heap.size):v.ownBlock=none\/v.ownBlock≠u'.ownBlock:=by
 rcases hat with e|e
 .rw[e];exact h
 .rw[e];cases e2:v.ownBlock with
  |none=>exact .inl rfl
  |some k=>
   right;intro a;injection a with a
   have:=(hN.lt k e2).2;omega
theorem zrn {w w2:World} {base:Nat} {E:TypeId} {v u:Value} {l m:List Nat} (hN:OwnRow intL w2 w.heap.size E v l) (hL:OwnRow intL w base E u m):v.ownBlock=none\/v.ownBlock≠u.ownBlock:=by
 cases e2:v.ownBlock with
 |none=>exact .inl rfl
 |some k=>
  right;intro a;have:=(hN.lt k e2).1;have:=(hL.lt k a.symm).2;omega
theorem zft (w:World):OwnRow intL (w.alloc (.cells #[] 3)).drew w.heap.size 3 (.slice (some ⟨w.heap.size,0,none⟩) ([]:List Nat).length 0) []:=by
 refine⟨by simp[Lay.all],.inr ⟨w.heap.size,0,#[],rfl,Nat.le_refl _,heap_alloc_new w _,Nat.le_refl _,by simp[maxLen],by simp,by simp[Lay.all]⟩⟩
theorem zd9 (A:Option Addr) (c a:Nat) (root:Int) (vs:List NV) (ns:List Gr.Nd) (hr:Refs ns) (hl:ns.length<=1000) (hks:∀n∈ns,n.keys.length<=1000/\n.items.length<=1000) (ha:a<ns.length)
 (w:World) (h:GAt w w.heap.size A vs ns):
 Calls prog 45 #[.agg #[.slice A ns.length c,.int .i64 root],.int .i64 a] w fun e w'=>∃ob,e=.returned (.slice (some ⟨ob,0,none⟩) ns.length ns.length)/\w.heap.size<=ob/\Below w.heap.size w w'/\Blk w' ob 4 (bcells (marks ns a)):=by
 have H:=hid h;have hmk:=fun W=>zb1 ns.length (by omega) W
 have haI:(a:Int)<(ns.length:Int):=by omega
 clear h;go_enter func45,ntmps45;go_upto_region 2 with fail;obtain⟨w2,s⟩:=ex ((w.alloc (.cells #[.slice A ns.length c,.int .i64 root] 24)).alloc (.cells (bcells (List.replicate ns.length false)) 4))
 have l2:Below w.heap.size w w2:=by rw[<-s];exact((Below.refl _ _).alloc (Nat.le_refl _) _).alloc (by simp) _
 have bg:Blk w2 w.heap.size 24 #[.slice A ns.length c,.int .i64 root]:=by rw[<-s];exact(Blk.new _ _ _).alloc _
 have bo:Blk w2 (w.heap.size+1) 4 (bcells (List.replicate ns.length false)):=by
  rw[<-s];have:=Blk.new (w.alloc (.cells #[.slice A ns.length c,.int .i64 root] 24)) 4 (bcells (List.replicate ns.length false));rw[World.size_alloc]at this;exact this
 have ak:w2.heap.size=w.heap.size+2:=by rw[<-s];simp
 have z0:w2.cell? ⟨w.heap.size+1,a,none⟩=some (.bool false):=by
  rw[bo.cell,zah (by simpa using ha)];simp[List.getD_eq_getElem?_getD,ha]
 have zf:∀i,w2.frozen? ⟨w.heap.size+1,i,none⟩=false:=bo.frozen;rw[s];clear s;go_upto_region 3 with fail;obtain⟨w3,r⟩:=ex (w2.setCell ⟨w.heap.size+1,a,none⟩ (.bool true))
 have b3:Blk w3 (w.heap.size+1) 4 (bcells ((List.replicate ns.length false).set a true)):=by rw[<-r,<-zbz];exact bo.set_ a _
 have V:Blk w3 w.heap.size 24 #[.slice A ns.length c,.int .i64 root]:=by rw[<-r];exact bg.far (by simp) _
 have l3:Below w.heap.size w w3:=by rw[<-r];exact l2.setCell (by simp) _
 have ax:w3.heap.size=w.heap.size+2:=by rw[<-r];simpa[World.setCell]using ak
 rw[r];clear r l2 bg bo z0 zf ak;go_upto_region 4 with fail;obtain⟨gc,aa⟩:∃gc:Array Value,#[.slice A ns.length c,.int .i64 root]=gc:=⟨_,rfl⟩
 have aJ:Hid (gc[0]? =some (.slice A ns.length c)):=hid (by rw[<-aa];rfl);rw[aa]at V;have HB:Hid (RB w (w3.alloc (.cells #[.int .i64 a] 3)) gc ((List.replicate ns.length false).set a true) (.slice (some ⟨w3.heap.size,0,none⟩) 1 1) [a]):=hid
  ⟨l3.alloc (by omega) _,V.alloc _,b3.alloc _,OwnRow.lit1 (by omega) a _ rfl,by simp;omega⟩
 have aq:Hid (Bfs (Gr.succ ns) ns.length a ((List.replicate ns.length false).set a true) [a] 0 []):=hid (Bfs.start ha);obtain⟨m0,T⟩:=ex ((List.replicate ns.length false).set a true)
 obtain⟨w4,ae⟩:=ex (w3.alloc (.cells #[.int .i64 a] 3))
 obtain⟨lb,ac⟩:=ex (w.heap.size+2)
 rw[T,ae,ax,ac]at HB;rw[T]at aq;(try rw[ae]);(try rw[ac]);clear aa l3 V b3 ax T ae ac;go_upto_region 5 with fail;go_loopw [6,7] (fun s6 s7 wr=>∃(i:Nat) (m:List Bool) (L:List Nat) (A1:Option Addr) (c1:Nat),i<=L.length/\s7=.int .i64 i/\s6=.slice A1 L.length c1/\Hid (RB w wr gc m (.slice A1 L.length c1) L/\Bfs (Gr.succ ns) ns.length a m L i [])) (fun _ s7 _=>ns.length-(intOf s7).toNat)
 case atStart=>exact⟨0,m0,[a],some ⟨lb,0,none⟩,1,by simp,rfl,rfl,hid ⟨HB.out,aq.out⟩⟩
 case round=>
  obtain⟨i,m,L,A1,c1,hi,rfl,rfl,t⟩:=hrel;obtain⟨P,aW⟩:∃P,P=wr:=⟨_,rfl⟩
  subst aW;have HLN:Hid (L.length<=ns.length):=hid t.out.2.len_le;by_cases hil:i<L.length
  .have aH:(i:Int)<(L.length:Int):=by omega
   obtain⟨u,hu⟩:=ex (L[i])
   have af:u<ns.length:=by rw[<-hu];exact t.out.2.lt _ (List.getElem_mem hil)
   obtain⟨E,rfl,_,y0⟩:=zae (zd8 t.out.1.own).1 hil;rw[hu]at y0;have HU:Hid (L[i]? =some u):=hid (by rw[<-hu];exact List.getElem?_eq_getElem hil);obtain⟨D,k,i2,rfl,y⟩:=(H.out.below t.out.1.below).node af;obtain⟨ka,kn,kc⟩:=k;obtain⟨M,aK,ic⟩:=i2;have ag:ns[u]∈ns:=List.getElem_mem af;obtain⟨aN,av⟩:=hks _ ag;have I:Hid (Gr.succ ns u=ns[u].keys++ns[u].items/\∀x∈ns[u].keys++ns[u].items,x<ns.length):=hid ⟨zda af,hr _ ag⟩;obtain⟨n,hn⟩:=ex (ns[u])
   rw[hn]at y I aN av;obtain rfl:kn=n.keys.length:=y.kn;obtain rfl:aK=n.items.length:=y.inn;have x0:=y.c0;have x1:=y.c1;have x2:=y.c2;have x3:=y.c3;have x4:=y.c4;have g0:P.cell? ⟨w.heap.size,0,none⟩=some (.slice (some D) ns.length c):=by rw[t.out.1.box.cell];exact aJ.out
   have hunI:(u:Int)<(ns.length:Int):=by omega
   have al:Hid (RowAt intL P w.heap.size ka n.keys/\RowAt intL P w.heap.size M n.items):=hid ⟨y.keys,y.items⟩;clear y ag hn hu;go_upto_region 7 with fail;go_cut [8] (fun s8 wx=>∃g8,s8=.pointer (some ⟨g8,0,none⟩)/\Hid (Blk wx g8 36 #[.int .i64 n.kind,.string ⟨n.text.toArray⟩,.bool n.ord,.slice ka n.keys.length kc,.slice M n.items.length ic]/\Below P.heap.size P wx))
   case first=>
    go_region_held3 (fun w'=>w'.cell? ⟨w.heap.size,0,none⟩=some (.slice (some D) ns.length c)/\w'.cell? (E.add i)=some (.int .i64 u)/\
     w'.cell? (D.add (u*5))=some (.int .i64 n.kind)/\w'.cell? {block:=(D.add (u*5)).block,off:=(D.add (u*5)).off+1}=some (.string ⟨n.text.toArray⟩)/\w'.cell? {block:=(D.add (u*5)).block,off:=(D.add (u*5)).off+2}=some (.bool n.ord)/\
     w'.cell? {block:=(D.add (u*5)).block,off:=(D.add (u*5)).off+3}=some (.slice ka n.keys.length kc)/\w'.cell? {block:=(D.add (u*5)).block,off:=(D.add (u*5)).off+4}=some (.slice M n.items.length ic))
      (first|go_keep| (simp[go_sem])) (fail)
    all_goals
     go_wp2;go_meet
    exact⟨P.heap.size,rfl,hid ⟨Blk.new _ _ _,((Below.refl _ _).alloc (Nat.le_refl _) _).drew⟩⟩
   case rest=>
    obtain⟨g8,rfl,f⟩:=hcut;have R:Hid (RB w wc gc m (.slice (some E) L.length c1) L/\Bfs (Gr.succ ns) ns.length a m L i []):=hid ⟨t.out.1.later f.out.2,t.out.2⟩;have s3:wc.cell? ⟨g8,3,none⟩=some (.slice ka n.keys.length kc):=f.out.1.cell 3;have s4:wc.cell? ⟨g8,4,none⟩=some (.slice M n.items.length ic):=f.out.1.cell 4;clear x0 x1 x2 x3 x4 g0 y0;go_upto_region 8 with fail;obtain⟨d,aV⟩:∃d,d=wc:=⟨_,rfl⟩
    subst aV;go_cut [9] (fun s9 wx=>∃A2 c2,s9=.slice A2 (n.keys.length+n.items.length) c2/\Hid (OwnRow intL wx d.heap.size 3 (.slice A2 (n.keys.length+n.items.length) c2) (n.keys++n.items)/\Below d.heap.size d wx))
    case first=>
     have s3a:(d.alloc (.cells #[] 3)).cell? ⟨g8,3,none⟩=some (.slice ka n.keys.length kc):=(f.out.1.alloc _).cell 3;have s4a:(d.alloc (.cells #[] 3)).cell? ⟨g8,4,none⟩=some (.slice M n.items.length ic):=(f.out.1.alloc _).cell 4;have B:OwnRow intL (d.alloc (.cells #[] 3)).drew d.heap.size 3 (.slice (some ⟨d.heap.size,0,none⟩) ([]:List Nat).length 0) []:=zft d;have X:Below w.heap.size P (d.alloc (.cells #[] 3)).drew:=by
      have:=t.out.1.below.size;exact below_drewN ((f.out.2.mono this).alloc (Nat.le_trans this f.out.2.size) _) 1
     have aB:RowAt intL (d.alloc (.cells #[] 3)).drew w.heap.size ka n.keys:=al.out.1.below X;have S:RowAt intL (d.alloc (.cells #[] 3)).drew w.heap.size M n.items:=al.out.2.below X;have ab:Hid (d.heap.size<=(d.alloc (.cells #[] 3)).drew.heap.size/\w.heap.size<=d.heap.size/\g8<d.heap.size):=hid ⟨by simp,Nat.le_trans t.out.1.below.size f.out.2.size,f.out.1.lt⟩;have aD:Hid (Blk (d.alloc (.cells #[] 3)).drew g8 36 #[.int .i64 n.kind,.string ⟨n.text.toArray⟩,.bool n.ord,.slice ka n.keys.length kc,.slice M n.items.length ic]/\RowAt intL (d.alloc (.cells #[] 3)).drew w.heap.size M n.items):=hid ⟨f.out.1.alloc _,S⟩;have aL:([]:List Nat).length+n.keys.length<=1073741824:=by simp;omega
     have aQ:n.keys.length+n.items.length<=1073741824:=by omega
     have U:=ab.out.1;clear X S;go_region_law (first
      | (refine zai _ rfl (.tmp 34) (.tmp 36) 34 3 8 rfl intT d.heap.size (.slice (some ⟨d.heap.size,0,none⟩) ([]:List Nat).length 0) [] rfl B _ _ kc n.keys rfl aB aL U ?_;intro v1 w1 l aG aC;rw[List.nil_append]at l;obtain⟨A8,c8,aS,_⟩:=l.form;subst aS;have z:=B.grown_below aG U;have s41:w1.cell? ⟨g8,4,none⟩=some (.slice M n.items.length ic):=(aD.out.1.below z ab.out.2.2).cell 4;have am:RowAt intL w1 w.heap.size M n.items:=aD.out.2.below (z.mono ab.out.2.1);have aA:d.heap.size<=w1.heap.size:=Nat.le_trans U z.size;have aM:=hid z;clear aG aC z)
      | (refine zai _ rfl (.tmp 37) (.tmp 39) 34 3 8 rfl intT d.heap.size (.slice A8 n.keys.length c8) n.keys rfl l _ _ ic n.items rfl am aQ aA ?_;intro v2 w2 p aj ay;obtain⟨A9,c9,an,_⟩:=p.form;rw[List.length_append]at an;subst an;have aO:Hid (OwnRow intL w2 d.heap.size 3 (.slice A9 (n.keys.length+n.items.length) c9) (n.keys++n.items)/\Below d.heap.size d w2):=hid ⟨p,(below_drewN ((Below.refl _ _).alloc (Nat.le_refl _) _) 1).trans (aM.out.trans (l.grown_below aj aA))⟩;clear p aj ay))
     all_goals
      go_wp2;go_meet;exact⟨A9,c9,rfl,aO⟩
    case rest=>
     obtain⟨A2,c2,rfl,HN⟩:=hcut;have aU:Hid (RB w wc gc m (.slice (some E) L.length c1) L):=hid (R.out.1.later HN.out.2);have aw:Hid ((Value.slice A2 (n.keys.length+n.items.length) c2).ownBlock=none\/(Value.slice A2 (n.keys.length+n.items.length) c2).ownBlock≠(Value.slice (some E) L.length c1).ownBlock):=hid (zrn HN.out.1 R.out.1.own);have ar:Hid (OwnRow intL wc (w.heap.size+2) 3 (.slice A2 (n.keys.length+n.items.length) c2) (n.keys++n.items)):=hid (HN.out.1.lower R.out.1.hd);obtain⟨J,O⟩:=ex (n.keys++n.items)
     obtain⟨q,Q⟩:=ex (n.keys.length+n.items.length)
     have hnn:J.length=q:=by rw[<-O,<-Q];simp
     have hnb:q<=2000:=by omega
     rw[Q,O]at ar;rw[Q]at aw;rw[O]at I;(try rw[Q]);clear HN O s3 s4;go_upto_region 10 with fail;go_loopw [6,10] (fun s6 s10 wr=>∃(k:Nat) (m:List Bool) (L:List Nat) (A1:Option Addr) (c1:Nat),k<=q/\s10=.int .i64 k/\s6=.slice A1 L.length c1/\Hid (RB w wr gc m (.slice A1 L.length c1) L/\Bfs (Gr.succ ns) ns.length a m L i (J.take k)/\L[i]? =some u/\OwnRow intL wr (w.heap.size+2) 3 (.slice A2 q c2) J/\((Value.slice A2 q c2).ownBlock=none\/(Value.slice A2 q c2).ownBlock≠(Value.slice A1 L.length c1).ownBlock))) (fun _ s10 _=>q-(intOf s10).toNat)
     case atStart=>exact⟨0,m,L,some E,c1,by omega,rfl,rfl,hid ⟨aU.out,by simpa using R.out.2,HU.out,ar.out,aw.out⟩⟩
     case round=>
      obtain⟨k,K,o,A3,c3,hk,rfl,rfl,g⟩:=hrel;by_cases hlk:k<q
      .have aE:(k:Int)<(q:Int):=by omega
       have C:k<J.length:=by omega
       obtain⟨x,hx⟩:=ex (J[k])
       obtain⟨G,rfl,hb3,y0⟩:=zae (zd8 g.out.2.2.2.1).1 C;rw[hx]at y0;have aT:x<ns.length:=I.out.2 x (by rw[<-hx];exact List.getElem_mem C);have hxI:(x:Int)<(ns.length:Int):=by omega
       have aI:Hid (x∈Gr.succ ns u):=hid (by rw[I.out.1,<-hx];exact List.getElem_mem C);have ao:Hid (J.take (k+1)=J.take k++[x]):=hid (by rw[List.take_succ_eq_append_getElem C,hx]);have aP:=g.out.2.1.ml;obtain⟨b,hb⟩:=ex (K.getD x false)
       have z0:wr.cell? ⟨w.heap.size+1,x,none⟩=some (.bool b):=by rw[g.out.1.met.cell,zah (by omega),hb]
       have zf:∀j,wr.frozen? ⟨w.heap.size+1,j,none⟩=false:=g.out.1.met.frozen;have hkb:k<=2000:=by omega
       clear aP;cases b with
       |true=>
        have ap:Hid (Bfs (Gr.succ ns) ns.length a K o i (J.take (k+1))):=hid (by rw[ao.out];exact g.out.2.1.old hb);clear hb;go_wp2;go_roundw
        case rel=>exact⟨k+1,K,o,A3,c3,by omega,by go_num,rfl,hid ⟨g.out.1,ap.out,g.out.2.2⟩⟩
        case measure=>simp[intOf];omega
       |false=>
        have ai:Hid (Bfs (Gr.succ ns) ns.length a (K.set x true) (o++[x]) i (J.take (k+1))):=hid (by rw[ao.out];exact g.out.2.1.new g.out.2.2.1 aI.out aT hb);obtain⟨wm,N⟩:=ex (wr.setCell ⟨w.heap.size+1,x,none⟩ (.bool true))
        have HM:Hid (RB w wm gc (K.set x true) (.slice A3 o.length c3) o/\OwnRow intL wm (w.heap.size+2) 3 (.slice (some G) q c2) J):=hid ⟨by rw[<-N];exact g.out.1.mark x true,by rw[<-N];exact g.out.2.2.2.1.setCell (fun e=>absurd (g.out.2.2.2.1.lt _ e).1 (by simp)) _⟩;have y1:wm.cell? (G.add k)=some (.int .i64 x):=by
         obtain⟨ad4,e4,_,y4⟩:=zae (zd8 HM.out.2).1 C;injection e4 with e4
         subst e4;rw[hx]at y4;exact y4
        have Z:Hid (o.length+1<=1001/\w.heap.size+2<=wm.heap.size):=hid ⟨by have:=g.out.2.1.len_le;omega,HM.out.1.hd⟩;clear hb hx;go_upto_region 14 with fail;(try rw[N]);clear N z0 zf y0;go_wp2_with (at_builtin;go_must (refine zab _ rfl (.tmp 61) (.tmp 66) 34 3 8 rfl intT (w.heap.size+2) (.slice A3 o.length c3) o rfl (HM.out.1.own.alloc _) _ _ 1 [x] rfl (RowAt.lit1 _ _ rfl _ ?_) ?_ ?_ ?_))
        any_goals (first|rfl| (have:=Z.out;omega)| (have:=Z.out;simp;omega)| (rw[World.size_alloc];have:=Z.out;omega))
        intro v' w5 F hg az;have Y:Hid (RB w w5 gc (K.set x true) v' (o++[x])/\OwnRow intL w5 (w.heap.size+2) 3 (.slice (some G) q c2) J/\((Value.slice (some G) q c2).ownBlock=none\/(Value.slice (some G) q c2).ownBlock≠v'.ownBlock)):=hid ⟨(HM.out.1.alloc _).grown F hg,World.ownsRow.kept (HM.out.2.alloc _) hg g.out.2.2.2.2,zty g.out.2.2.2.2 (HM.out.2.alloc (.cells #[.int .i64 x] 3)) (by rw[World.size_alloc];exact az)⟩;have au:Hid ((o++[x])[i]? =some u):=hid (by
         have h1:=g.out.2.2.1;rw[List.getElem?_append_left]
         .exact h1
         .rcases Nat.lt_or_ge i o.length with h2|h2
          .exact h2
          .rw[List.getElem?_eq_none h2]at h1;cases h1)
        obtain⟨A5,c5,ah,_⟩:=F.form;obtain⟨L5,aF⟩:=ex (o++[x])
        rw[aF]at ai Y au ah;subst ah;clear F hg az aF;go_wp2;go_roundw
        case rel=>exact⟨k+1,K.set x true,L5,A5,c5,by omega,by go_num,rfl,hid ⟨Y.out.1,ai.out,au.out,Y.out.2⟩⟩
        case measure=>simp[intOf];omega
      .have aE:¬(k:Int)<(q:Int):=by omega
       have HE:Hid (RB w wr gc K (.slice A3 o.length c3) o/\Bfs (Gr.succ ns) ns.length a K o (i+1) []):=hid ⟨g.out.1,g.out.2.1.next g.out.2.2.1 (by rw[I.out.1,List.take_of_length_le (by omega)])⟩;have aR:i+1<=o.length:=by
        have h1:=g.out.2.2.1;rcases Nat.lt_or_ge i o.length with h2|h2
        .exact h2
        .rw[List.getElem?_eq_none h2]at h1;cases h1
       have hln:=g.out.2.1.len_le;have hib:i<=2000:=by omega
       go_wp2;go_roundw
       case rel=>exact⟨i+1,K,o,A3,c3,aR,by go_num,rfl,HE⟩
       case measure=>simp[intOf];omega
  .have aH:¬(i:Int)<(L.length:Int):=by omega
   have HE:Hid (m=marks ns a):=hid (t.out.2.marks hr ha (by omega));go_wp2;go_ret;exact⟨w.heap.size+1,rfl,by omega,t.out.1.below,by rw[<-HE.out];exact t.out.1.met⟩
theorem zgk {w:World} {B:Nat} {A:Option Addr} {vs:List NV} {ns:List Gr.Nd} (h:GAt w B A vs ns) {j:Nat} {n:Gr.Nd} (hj:j<ns.length) (hn:ns[j]=n):∃ad ka kc ia ic,A=some ad/\w.cell? {block:=(ad.add (j*5)).block,off:=(ad.add (j*5)).off+3}=some (.slice ka n.keys.length kc)/\
 w.cell? {block:=(ad.add (j*5)).block,off:=(ad.add (j*5)).off+4}=some (.slice ia n.items.length ic)/\RowAt intL w B ka n.keys/\RowAt intL w B ia n.items:=by
 subst hn;obtain⟨ad,⟨ka,b,kc⟩,⟨ia,a,ic⟩,e,h⟩:=h.node hj;obtain rfl:b=ns[j].keys.length:=h.kn;obtain rfl:a=ns[j].items.length:=h.inn;exact⟨ad,ka,kc,ia,ic,e,h.c3,h.c4,h.keys,h.items⟩
structure CB (w wr:World) (gc:Array Value) (m:List Nat):Prop where
 below:Below w.heap.size w wr
 box:Blk wr w.heap.size 24 gc
 out:Blk wr (w.heap.size+1) 3 (icells m)
theorem CB.step {w wr:World} {gc:Array Value} {m:List Nat} (h:CB w wr gc m) (x:Nat):CB w (wr.setCell ⟨w.heap.size+1,x,none⟩ (.int .i64 ((m.getD x 0:Nat)+1))) gc (cstep m x):=
 ⟨h.below.setCell (by simp) _,h.box.far (by simp) _,by
  unfold cstep;rw[<-zaw];exact h.out.set_ x _⟩
theorem zkf (A:Option Addr) (c root:Nat) (vs:List NV) (ns:List Gr.Nd) (hr:Refs ns) (hl:ns.length<=1000) (hks:∀n∈ns,n.keys.length<=1000/\n.items.length<=1000) (ha:root<ns.length)
 (w:World) (h:GAt w w.heap.size A vs ns):
 Calls prog 46 #[.agg #[.slice A ns.length c,.int .i64 root]] w fun e w'=>∃ob,e=.returned (.slice (some ⟨ob,0,none⟩) ns.length ns.length)/\w.heap.size<=ob/\Below w.heap.size w w'/\Blk w' ob 3 (icells (counts ns root)):=by
 have H:=hid h;have af:=fun W=>zb0 ns.length (by omega) W
 have haI:(root:Int)<(ns.length:Int):=by omega
 have ae:Hid (∀j,(Gr.refs (ns.take j)).length<=2000*j):=hid (fun j=>by
  induction j with
  |zero=>simp[Gr.refs]
  |succ j ih=>
   by_cases hj:j<ns.length
   .rw[zdl ns j hj];have:=hks _ (List.getElem_mem hj);simp only[List.length_append];omega
   .rw[List.take_of_length_le (by omega)];rw[List.take_of_length_le (by omega)]at ih;omega)
 clear h;go_enter func46,ntmps46;go_upto_region 2 with fail;obtain⟨S,o⟩:=ex ((w.alloc (.cells #[.slice A ns.length c,.int .i64 root] 24)).alloc (.cells (icells (List.replicate ns.length 0)) 3))
 obtain⟨g,B⟩:∃g:Array Value,#[.slice A ns.length c,.int .i64 root]=g:=⟨_,rfl⟩
 have s:Hid (g[0]? =some (.slice A ns.length c)/\g[1]? =some (.int .i64 root)):=hid (by rw[<-B];exact⟨rfl,rfl⟩);have M:CB w S g (List.replicate ns.length 0):=by
  refine⟨by rw[<-o];exact((Below.refl _ _).alloc (Nat.le_refl _) _).alloc (by simp) _,by rw[<-o,<-B];exact(Blk.new _ _ _).alloc _,?_⟩;rw[<-o];have:=Blk.new (w.alloc (.cells #[.slice A ns.length c,.int .i64 root] 24)) 3 (icells (List.replicate ns.length 0));rw[World.size_alloc]at this;exact this
 have g1:S.cell? ⟨w.heap.size,1,none⟩=some (.int .i64 root):=by rw[M.box.cell];exact s.out.2
 have e0:(List.replicate ns.length 0).getD root 0=0:=by simp[List.getD_eq_getElem?_getD,ha]
 have z0:S.cell? ⟨w.heap.size+1,root,none⟩=some (.int .i64 0):=by
  rw[M.out.cell,zad (by simpa using ha),e0];rfl
 have zf:∀i,S.frozen? ⟨w.heap.size+1,i,none⟩=false:=M.out.frozen;have p:=M.step root;rw[e0]at p;obtain⟨f,C⟩:=ex (cstep (List.replicate ns.length 0) root)
 have m:Hid (f.length=ns.length/\(∀x,f.getD x 0<=1)/\counts ns root=(Gr.refs ns).foldl cstep f):=hid (by
  rw[<-C];refine⟨by rw[zci];simp,fun x=>?_,rfl⟩;have:=zen (List.replicate ns.length 0) root x;have e:(List.replicate ns.length 0).getD x 0=0:=by simp[List.getD_eq_getElem?_getD,List.getElem?_replicate];split<;>rfl
  omega)
 rw[C]at p;rw[o];clear o B M;go_upto_region 3 with fail;obtain⟨w3,F⟩:=ex (S.setCell ⟨w.heap.size+1,root,none⟩ (.int .i64 1))
 have p:Hid (CB w w3 g f):=hid (by rw[<-F];exact p);rw[F];clear F C g1 z0 zf e0 af;go_upto_region 4 with fail;go_loopw [4] (fun s4 wr=>∃j:Nat,j<=ns.length/\s4=.int .i64 j/\Hid (CB w wr g ((Gr.refs (ns.take j)).foldl cstep f))) (fun s4 _=>ns.length-(intOf s4).toNat)
 case atStart=>exact⟨0,by omega,rfl,hid (by simpa[Gr.refs]using p.out)⟩
 case round=>
  obtain⟨j,hj,rfl,P⟩:=hrel;have Y:wr.cell? ⟨w.heap.size,0,none⟩=some (.slice A ns.length c):=by rw[P.out.box.cell];exact s.out.1
  by_cases hlt:j<ns.length
  .have O:(j:Int)<(ns.length:Int):=by omega
   have y:ns[j]∈ns:=List.getElem_mem hlt;obtain⟨n,J⟩:=ex (ns[j])
   have Q:Hid (∀x∈n.keys++n.items,x<ns.length):=hid (by rw[<-J];exact hr _ y);have hkl:n.keys.length<=1000:=by rw[<-J];exact(hks _ y).1
   have hil:n.items.length<=1000:=by rw[<-J];exact(hks _ y).2
   obtain⟨R,V⟩:=ex (Gr.refs (ns.take j))
   have ab:Hid (Gr.refs (ns.take (j+1))=R++(n.keys++n.items)):=hid (by rw[zdl ns j hlt,V,J]);have N:Hid (R.length<=2000000):=hid (by have:=ae.out j;rw[V]at this;omega);have t:Hid (∀W,CB w W g ((Gr.refs (ns.take j)).foldl cstep f)\/Below w.heap.size w W->∃ad ka kc ia ic,A=some ad/\W.cell? {block:=(ad.add (j*5)).block,off:=(ad.add (j*5)).off+3}=some (.slice ka n.keys.length kc)/\
    W.cell? {block:=(ad.add (j*5)).block,off:=(ad.add (j*5)).off+4}=some (.slice ia n.items.length ic)/\RowAt intL W w.heap.size ka n.keys/\RowAt intL W w.heap.size ia n.items):=hid (fun W hW=>zgk (H.out.below (hW.elim (fun x=>x.below) id)) hlt J)
   rw[V]at P t;obtain⟨ad,ka,kc,ia,ic,rfl,U,X,_,_⟩:=t.out wr (.inl P.out);clear y V J;go_upto_region 7 with fail;clear Y U X;go_loopw [5] (fun s5 wr=>∃k:Nat,k<=n.keys.length/\s5=.int .i64 k/\Hid (CB w wr g ((R++n.keys.take k).foldl cstep f))) (fun s5 _=>n.keys.length-(intOf s5).toNat)
   case atStart=>exact⟨0,by omega,rfl,hid (by rw[List.take_zero,List.append_nil];exact P.out)⟩
   case round=>
    obtain⟨k,hk,rfl,r⟩:=hrel;have Y:wr.cell? ⟨w.heap.size,0,none⟩=some (.slice (some ad) ns.length c):=by rw[r.out.box.cell];exact s.out.1
    obtain⟨ac,ka,kc,ia,ic,E,U,X,K,L⟩:=t.out wr (.inr r.out.below);injection E with E
    subst E;by_cases hlk:k<n.keys.length
    .have q:(k:Int)<(n.keys.length:Int):=by omega
     obtain⟨x,u⟩:=ex (n.keys[k])
     obtain⟨ai,rfl,_,y0⟩:=zae K hlk;rw[u]at y0;have ag:x<ns.length:=Q.out x (by simp[<-u]);have ah:(x:Int)<(ns.length:Int):=by omega
     obtain⟨l,a⟩:=ex ((R++n.keys.take k).foldl cstep f)
     have G:l.length=ns.length:=by rw[<-a,zb2,m.out.1]
     have z:l.getD x 0<=3000000:=by
      rw[<-a];have h1:=zdk (R++n.keys.take k) f x;have h2:=m.out.2.1 x;have h3:=N.out;simp only[List.length_append,List.length_take]at h1;omega
     have d:=r.out;rw[a]at d;have b:=d.step x;obtain⟨v,I⟩:=ex (l.getD x 0)
     have z0:wr.cell? ⟨w.heap.size+1,x,none⟩=some (.int .i64 (v:Int)):=by rw[d.out.cell,zad (by omega),I]
     have zf:∀i,wr.frozen? ⟨w.heap.size+1,i,none⟩=false:=d.out.frozen;rw[I]at z b;have D:Hid (CB w (wr.setCell ⟨w.heap.size+1,x,none⟩ (.int .i64 ((v:Int)+1))) g ((R++n.keys.take (k+1)).foldl cstep f)):=hid (by
      rw[zak _ _ hlk,<-List.append_assoc,List.foldl_append,a,u];exact b)
     have aa:k<=1000:=by omega
     clear d b a G I u K L;go_wp2;go_roundw
     case rel=>exact⟨k+1,by omega,by go_num,D⟩
     case measure=>simp[intOf];omega
    .have q:¬(k:Int)<(n.keys.length:Int):=by omega
     have T:Hid (CB w wr g ((R++n.keys).foldl cstep f)):=hid (by have:=r.out;rwa[List.take_of_length_le (by omega)]at this);clear K L;go_upto_region 11 with fail;clear Y U X;go_loopw [6] (fun s6 wr=>∃k:Nat,k<=n.items.length/\s6=.int .i64 k/\Hid (CB w wr g (((R++n.keys)++n.items.take k).foldl cstep f))) (fun s6 _=>n.items.length-(intOf s6).toNat)
     case atStart=>exact⟨0,by omega,rfl,hid (by rw[List.take_zero,List.append_nil];exact T.out)⟩
     case round=>
      obtain⟨k,hk,rfl,r⟩:=hrel;have Y:wr.cell? ⟨w.heap.size,0,none⟩=some (.slice (some ad) ns.length c):=by rw[r.out.box.cell];exact s.out.1
      obtain⟨ac,ka,kc,ia,ic,E,U,X,K,L⟩:=t.out wr (.inr r.out.below);injection E with E
      subst E;by_cases hlk:k<n.items.length
      .have q:(k:Int)<(n.items.length:Int):=by omega
       obtain⟨x,u⟩:=ex (n.items[k])
       obtain⟨ai,rfl,_,y0⟩:=zae L hlk;rw[u]at y0;have ag:x<ns.length:=Q.out x (by simp[<-u]);have ah:(x:Int)<(ns.length:Int):=by omega
       obtain⟨l,a⟩:=ex (((R++n.keys)++n.items.take k).foldl cstep f)
       have G:l.length=ns.length:=by rw[<-a,zb2,m.out.1]
       have z:l.getD x 0<=3000000:=by
        rw[<-a];have h1:=zdk ((R++n.keys)++n.items.take k) f x;have h2:=m.out.2.1 x;have h3:=N.out;simp only[List.length_append,List.length_take]at h1;omega
       have d:=r.out;rw[a]at d;have b:=d.step x;obtain⟨v,I⟩:=ex (l.getD x 0)
       have z0:wr.cell? ⟨w.heap.size+1,x,none⟩=some (.int .i64 (v:Int)):=by rw[d.out.cell,zad (by omega),I]
       have zf:∀i,wr.frozen? ⟨w.heap.size+1,i,none⟩=false:=d.out.frozen;rw[I]at z b;have D:Hid (CB w (wr.setCell ⟨w.heap.size+1,x,none⟩ (.int .i64 ((v:Int)+1))) g (((R++n.keys)++n.items.take (k+1)).foldl cstep f)):=hid (by
        rw[zak _ _ hlk,<-List.append_assoc,List.foldl_append,a,u];exact b)
       have aa:k<=1000:=by omega
       clear d b a G I u K L;go_wp2;go_roundw
       case rel=>exact⟨k+1,by omega,by go_num,D⟩
       case measure=>simp[intOf];omega
      .have q:¬(k:Int)<(n.items.length:Int):=by omega
       have Z:Hid (CB w wr g (((R++n.keys)++n.items).foldl cstep f)):=hid (by have:=r.out;rwa[List.take_of_length_le (by omega)]at this);clear K L;have HF:Hid (CB w wr g ((Gr.refs (ns.take (j+1))).foldl cstep f)):=hid (by rw[ab.out,<-List.append_assoc];exact Z.out);go_wp2;go_roundw
       case rel=>exact⟨j+1,by omega,by go_num,HF⟩
       case measure=>simp[intOf];omega
  .have O:¬(j:Int)<(ns.length:Int):=by omega
   have T:Hid (CB w wr g (counts ns root)):=hid (by rw[m.out.2.2];have:=P.out;rwa[List.take_of_length_le (by omega)]at this);go_wp2;go_ret;exact⟨w.heap.size+1,rfl,by omega,T.out.below,T.out.out⟩
structure MB (w wr:World) (gc:Array Value) (m:List Bool):Prop where
 below:Below w.heap.size w wr
 box:Blk wr w.heap.size 24 gc
 out:Blk wr (w.heap.size+1) 4 (bcells m)
 hd:w.heap.size+2<=wr.heap.size
theorem MB.later {w wr w2:World} {gc:Array Value} {m:List Bool} (h:MB w wr gc m) (hb:Below wr.heap.size wr w2):MB w w2 gc m:=
 ⟨h.below.trans (hb.mono h.below.size),h.box.below hb h.box.lt,h.out.below hb h.out.lt,Nat.le_trans h.hd hb.size⟩
theorem MB.set {w wr:World} {gc:Array Value} {m:List Bool} (h:MB w wr gc m) (x:Nat) (b:Bool):MB w (wr.setCell ⟨w.heap.size+1,x,none⟩ (.bool b)) gc (m.set x b):=
 ⟨h.below.setCell (by simp) _,h.box.far (by simp) _,by rw[<-zbz];exact h.out.set_ x _,by have:=h.hd;simpa[World.setCell]using this⟩
def OrTo (o m acc:List Bool) (j:Nat):Prop:=acc.length=o.length/\∀x,mkd acc x=if x<j then(mkd o x || mkd m x)else mkd o x
theorem OrTo.step {o m acc:List Bool} {j:Nat} (h:OrTo o m acc j) (hj:j<o.length):OrTo o m (acc.set j (mkd o j || mkd m j)) (j+1):=by
 refine⟨by simp[h.1],fun x=>?_⟩;have a:mkd (acc.set j (mkd o j || mkd m j)) x=if x=j then(mkd o j || mkd m j)else mkd acc x:=by
  unfold mkd;simp only[List.getD_eq_getElem?_getD,List.getElem?_set];by_cases e:j=x
  .subst e;simp[h.1,hj]
  .rw[if_neg e,if_neg (fun k=>e k.symm)]
 rw[a,h.2];by_cases e:x=j
 .subst e;rw[if_pos rfl,if_pos (by omega)]
 .rw[if_neg e];by_cases e2:x<j
  .rw[if_pos e2,if_pos (by omega)]
  .rw[if_neg e2,if_neg (by omega)]
theorem OrTo.last {o m acc:List Bool} {j:Nat} (h:OrTo o m acc j) (hm:o.length=m.length) (hj:o.length<=j):acc=Gr.orM o m:=by
 refine zo6 (by rw[h.1,zo7 hm]) (fun x=>?_);rw[h.2,zun hm];by_cases e:x<j
 .rw[if_pos e]
 .rw[if_neg e];have:mkd m x=false:=by unfold mkd;rw[List.getD_eq_getElem?_getD,List.getElem?_eq_none (by omega)];rfl
  rw[this,Bool.or_false]
theorem zkg (A:Option Addr) (c:Nat) (root:Int) (vs:List NV) (ns:List Gr.Nd) (hr:Refs ns) (hl:ns.length<=1000) (hks:∀n∈ns,n.keys.length<=1000/\n.items.length<=1000)
 (w:World) (h:GAt w w.heap.size A vs ns):
 Calls prog 47 #[.agg #[.slice A ns.length c,.int .i64 root]] w fun e w'=>∃ob,e=.returned (.slice (some ⟨ob,0,none⟩) ns.length ns.length)/\w.heap.size<=ob/\Below w.heap.size w w'/\Blk w' ob 4 (bcells (inKeys ns)):=by
 have H:=hid h;have af:=fun W=>zb1 ns.length (by omega) W
 have ae:Hid (∀k∈allKeys ns,k<ns.length):=hid (zji hr);have ac:Hid (∀k,k<ns.length->(marks ns k).length=ns.length):=hid (fun k hk=>zbe hr hk);have r:Hid ((allKeys ns).foldl (fun o k=>Gr.orM o (marks ns k)) (List.replicate ns.length false)=inKeys ns):=hid (zjp hr);have M:Hid (∀L:List Nat,(∀x∈L,x<ns.length)->(L.foldl (fun o k=>Gr.orM o (marks ns k)) (List.replicate ns.length false)).length=ns.length):=hid (fun L hL=>(zii hr L (List.replicate ns.length false) hL (by simp)).1);clear h;go_enter func47,ntmps47;go_upto_region 2 with fail;obtain⟨w2,a⟩:=ex ((w.alloc (.cells #[.slice A ns.length c,.int .i64 root] 24)).alloc (.cells (bcells (List.replicate ns.length false)) 4))
 obtain⟨f,t⟩:∃f:Array Value,#[.slice A ns.length c,.int .i64 root]=f:=⟨_,rfl⟩
 have B:Hid (f[0]? =some (.slice A ns.length c)/\f[1]? =some (.int .i64 root)):=hid (by rw[<-t];exact⟨rfl,rfl⟩);obtain⟨u,C⟩:=ex (List.replicate ns.length false)
 have aa:Hid (MB w w2 f u):=hid (by
  refine⟨by rw[<-a];exact((Below.refl _ _).alloc (Nat.le_refl _) _).alloc (by simp) _,by rw[<-a,<-t];exact(Blk.new _ _ _).alloc _,?_,by rw[<-a];simp⟩;rw[<-a,<-C];have:=Blk.new (w.alloc (.cells #[.slice A ns.length c,.int .i64 root] 24)) 4 (bcells (List.replicate ns.length false));rw[World.size_alloc]at this;exact this)
 rw[C]at r M;rw[a];clear a t af C;go_upto_region 3 with fail;go_loopw [4] (fun s4 wr=>∃j:Nat,j<=ns.length/\s4=.int .i64 j/\Hid (MB w wr f ((allKeys (ns.take j)).foldl (fun o k=>Gr.orM o (marks ns k)) u))) (fun s4 _=>ns.length-(intOf s4).toNat)
 case atStart=>exact⟨0,by omega,rfl,hid (by simpa[allKeys]using aa.out)⟩
 case round=>
  obtain⟨j,hj,rfl,O⟩:=hrel;have g0:wr.cell? ⟨w.heap.size,0,none⟩=some (.slice A ns.length c):=by rw[O.out.box.cell];exact B.out.1
  by_cases hlt:j<ns.length
  .have J:(j:Int)<(ns.length:Int):=by omega
   have Y:ns[j]∈ns:=List.getElem_mem hlt;obtain⟨n,hn⟩:=ex (ns[j])
   have hkl:n.keys.length<=1000:=by rw[<-hn];exact(hks _ Y).1
   obtain⟨K,hK⟩:=ex (allKeys (ns.take j))
   have X:Hid (allKeys (ns.take (j+1))=K++n.keys):=hid (by rw[zh8 ns j hlt,hK,hn]);have I:Hid (∀x∈K++n.keys,x<ns.length):=hid (fun x D=>ae.out x (zkw ns (j+1) x (by rw[X.out];exact D)));have V:Hid (∀W,Below w.heap.size w W->∃ad ka kc ia ic,A=some ad/\W.cell? {block:=(ad.add (j*5)).block,off:=(ad.add (j*5)).off+3}=some (.slice ka n.keys.length kc)/\
    W.cell? {block:=(ad.add (j*5)).block,off:=(ad.add (j*5)).off+4}=some (.slice ia n.items.length ic)/\RowAt intL W w.heap.size ka n.keys/\RowAt intL W w.heap.size ia n.items):=hid (fun W hW=>zgk (H.out.below hW) hlt hn)
   rw[hK]at O;obtain⟨ad,ka,kc,ia,ic,rfl,x3,x4,_,_⟩:=V.out wr O.out.below;clear Y hK hn;go_upto_region 6 with fail;clear g0 x3 x4;go_loopw [5] (fun s5 wr=>∃k:Nat,k<=n.keys.length/\s5=.int .i64 k/\Hid (MB w wr f ((K++n.keys.take k).foldl (fun o k=>Gr.orM o (marks ns k)) u))) (fun s5 _=>n.keys.length-(intOf s5).toNat)
   case atStart=>exact⟨0,by omega,rfl,hid (by rw[List.take_zero,List.append_nil];exact O.out)⟩
   case round=>
    obtain⟨k,hk,rfl,l⟩:=hrel;have g0:wr.cell? ⟨w.heap.size,0,none⟩=some (.slice (some ad) ns.length c):=by rw[l.out.box.cell];exact B.out.1
    have g1:wr.cell? ⟨w.heap.size,1,none⟩=some (.int .i64 root):=by rw[l.out.box.cell];exact B.out.2
    obtain⟨ad1,ka,kc,ia,ic,he,x3,x4,HK,_⟩:=V.out wr l.out.below;injection he with he
    subst he;by_cases hlk:k<n.keys.length
    .have R:(k:Int)<(n.keys.length:Int):=by omega
     obtain⟨x,D⟩:=ex (n.keys[k])
     obtain⟨ad2,rfl,_,y0⟩:=zae HK hlk;rw[D]at y0;have Q:x<ns.length:=I.out x (by simp[<-D]);obtain⟨o,Z⟩:∃o,(K++n.keys.take k).foldl (fun o k=>Gr.orM o (marks ns k)) u=o:=⟨_,rfl⟩
     have m:Hid (o.length=ns.length):=hid (by rw[<-Z];exact M.out _ (fun y hy=>I.out y (by
      rcases List.mem_append.1 hy with hy|hy
      .exact List.mem_append_left _ hy
      .exact List.mem_append_right _ (List.mem_of_mem_take hy))))
     have T:Hid ((K++n.keys.take (k+1)).foldl (fun o k=>Gr.orM o (marks ns k)) u=Gr.orM o (marks ns x)):=hid (by rw[zak _ _ hlk,<-List.append_assoc,List.foldl_append,Z,D];rfl);rw[Z]at l;have HC:Hid (∀d,Calls prog 45 #[.agg #[.slice (some ad) ns.length c,.int .i64 root],.int .i64 x] (wr.drewN d) fun e w'=>∃ob,e=.returned (.slice (some ⟨ob,0,none⟩) ns.length ns.length)/\wr.heap.size<=ob/\Below wr.heap.size wr w'/\Blk w' ob 4 (bcells (marks ns x))):=hid (fun d=>
      (zd9 (some ad) c x root vs ns hr hl hks Q (wr.drewN d) (((H.out.below (l.out.below)).more l.out.below.size).below (below_drewN (Below.refl _ _) d))).mono (fun e w' ⟨ob,h1,h2,h3,h4⟩=>⟨ob,h1,h2,(below_drewN (Below.refl _ _) d).trans h3,h4⟩))
     have hkb:k<=1000:=by omega
     clear D Z HK x4;go_upto_region 8 with fail;go_still_tail 10,(by kernel_rfl)
     change wpList _ _ _ _ _ wr.drew;go_wp2_with fail;refine(HC.out 1).mono ?_;rintro e w8 ⟨S,rfl,ab,N,E⟩;have ag:Hid (MB w w8 f o):=hid (l.out.later N);have s:Hid (Blk w8 S 4 (bcells (marks ns x))/\w.heap.size+1<S):=hid ⟨E,by have:=l.out.hd;omega⟩;have v:=hid (ac.out x Q);obtain⟨P,U⟩:=ex (marks ns x)
     rw[U]at s T v;clear ab N E g0 g1 x3 y0 U;go_upto_region 10 with fail;go_loopw [7] (fun s7 wr=>∃(i:Nat) (acc:List Bool),i<=ns.length/\s7=.int .i64 i/\Hid (MB w wr f acc/\OrTo o P acc i/\Blk wr S 4 (bcells P))) (fun s7 _=>ns.length-(intOf s7).toNat)
     case atStart=>exact⟨0,o,by omega,rfl,hid ⟨ag.out,⟨rfl,fun x=>by simp⟩,s.out.1⟩⟩
     case round=>
      obtain⟨i,acc,hi,rfl,g⟩:=hrel;by_cases hli:i<ns.length
      .have F:(i:Int)<(ns.length:Int):=by omega
       have ah:=g.out.2.1.1;have z:=g.out.2.1.2 i;rw[if_neg (Nat.lt_irrefl i)]at z;obtain⟨p,hp⟩:=ex (mkd o i)
       obtain⟨q,hq⟩:=ex (mkd P i)
       have z0:wr.cell? ⟨w.heap.size+1,i,none⟩=some (.bool p):=by
        rw[g.out.1.out.cell,zah (by have:=m.out;omega),<-hp,<-z];rfl
       have q0:wr.cell? ⟨S,i,none⟩=some (.bool q):=by
        rw[g.out.2.2.cell,zah (by have:=v.out;omega),<-hq];rfl
       have zf:∀i,wr.frozen? ⟨w.heap.size+1,i,none⟩=false:=g.out.1.out.frozen;have G:Hid (∀b,b=(p || q)->MB w (wr.setCell ⟨w.heap.size+1,i,none⟩ (.bool b)) f (acc.set i b)/\OrTo o P (acc.set i b) (i+1)/\Blk (wr.setCell ⟨w.heap.size+1,i,none⟩ (.bool b)) S 4 (bcells P)):=hid (fun b hb=>by
        subst hb;refine⟨g.out.1.set _ _,?_,g.out.2.2.far (by have:=s.out.2;simp;omega) _⟩;have:=g.out.2.1.step (by have:=m.out;omega);rwa[hp,hq]at this)
       have hib:i<=1000:=by omega
       clear ah z hp hq;cases p with
       |true=>
        go_wp2;go_roundw
        case rel=>exact⟨i+1,acc.set i true,by omega,by go_num,hid (G.out true rfl)⟩
        case measure=>simp[intOf];omega
       |false=>
        have HQ:Hid (q=(false || q)):=hid (by cases q<;>rfl);go_wp2;go_roundw
        case rel=>exact⟨i+1,acc.set i q,by omega,by go_num,hid (G.out q HQ.out)⟩
        case measure=>simp[intOf];omega
      .have F:¬(i:Int)<(ns.length:Int):=by omega
       have HF:Hid (MB w wr f ((K++n.keys.take (k+1)).foldl (fun o k=>Gr.orM o (marks ns k)) u)):=hid (by
        rw[T.out,<-g.out.2.1.last (by rw[m.out,v.out]) (by rw[m.out];omega)];exact g.out.1)
       go_wp2;go_roundw
       case rel=>exact⟨k+1,by omega,by go_num,HF⟩
       case measure=>simp[intOf];omega
    .have R:¬(k:Int)<(n.keys.length:Int):=by omega
     have HF:Hid (MB w wr f ((allKeys (ns.take (j+1))).foldl (fun o k=>Gr.orM o (marks ns k)) u)):=hid (by rw[X.out];have:=l.out;rwa[List.take_of_length_le (by omega)]at this);clear HK x4 g1;go_wp2;go_roundw
     case rel=>exact⟨j+1,by omega,by go_num,HF⟩
     case measure=>simp[intOf];omega
  .have J:¬(j:Int)<(ns.length:Int):=by omega
   have HE:Hid (MB w wr f (inKeys ns)):=hid (by rw[<-r.out];have:=O.out;rwa[List.take_of_length_le (by omega)]at this);go_wp2;go_ret;exact⟨w.heap.size+1,rfl,by omega,HE.out.below,HE.out.out⟩
theorem zro (p:Nat->Bool) (i:Nat):(List.range (i+1)).all p=((List.range i).all p && p i):=by
 rw[List.range_succ,List.all_append];simp
theorem zja {p:Nat->Bool} {i n:Nat} (h:i<n) (hp:p i=false):(List.range n).all p=false:=by
 rw[List.all_eq_false];exact⟨i,List.mem_range.2 h,by rw[hp];decide⟩
theorem zrp (A:Option Addr) (c:Nat) (root:Int) (vs:List NV) (is:List Gr.Ni) (hl:is.length<=1000) (hks:∀n∈is,n.keys.length<=1000/\n.items.length<=1000/\n.text.length<=268435455)
 (w:World) (h:IAt w w.heap.size A vs is):
 Calls prog 31 #[.agg #[.slice A is.length c,.int .i64 root]] w fun e w'=>e=.returned (.bool (rwell sclX is root))/\Below w.heap.size w w':=by
 have H:=hid h;obtain⟨M,u⟩:=ex (w.alloc (.cells #[.slice A is.length c,.int .i64 root] 24))
 have b1:Blk M w.heap.size 24 #[.slice A is.length c,.int .i64 root]:=by rw[<-u];exact Blk.new _ _ _
 have L1:Hid (Below w.heap.size w M):=hid (by rw[<-u];exact(Below.refl _ _).alloc (Nat.le_refl _) _);obtain⟨g0,g1⟩:=cells2 b1;have ag:=hid b1;have t:Hid ((is.length=0\/inR is.length root=false)->rwell sclX is root=false):=hid (fun h=>by unfold rwell;rw[if_pos h]);clear h b1;go_enter func31,ntmps31;go_upto_region 1 with fail;(try rw[u]);clear u;by_cases h0:is.length=0
 .have am:((is.length:Int)==0)=true:=by rw[h0];rfl
  have k:Hid (rwell sclX is root=false):=hid (t.out (.inl h0));have H0:=hid h0;clear h0;go_wp2;go_ret;exact⟨by rw[k.out]<;>rfl,L1.out⟩
 .have am:((is.length:Int)==0)=false:=by rw[beq_eq_false_iff_ne];omega
  by_cases h1:0<=root
  .have ak:¬root<0:=by omega
   by_cases h2:root<(is.length:Int)
   .have al:¬(is.length:Int)<=root:=by omega
    obtain⟨r,rfl⟩:∃r:Nat,root=(r:Int):=⟨root.toNat,by omega⟩
    have hrn:r<is.length:=by omega
    have ah:Hid (rwell sclX is (r:Int)=if is.all (rform sclX is.length)=false then false else(List.range is.length).all (rnode (is.map Gr.Ni.nd) r)):=hid (by
     unfold rwell;rw[if_neg,Int.toNat_natCast];rintro(h|h)
     .exact h0 h
     .unfold inR at h;rw[decide_eq_true h1,decide_eq_true h2]at h;cases h)
    clear t;go_upto_region 5 with fail;clear g0 g1;go_loopw [4] (fun s4 wr=>∃j:Nat,j<=is.length/\s4=.int .i64 j/\Hid (Below M.heap.size M wr/\(is.take j).all (rform sclX is.length)=true)) (fun s4 _=>is.length-(intOf s4).toNat)
    case atStart=>exact⟨0,by omega,rfl,hid ⟨Below.refl _ _,by simp⟩⟩
    case round=>
     obtain⟨j,hj,rfl,N⟩:=hrel;have d:Hid (Below w.heap.size w wr):=hid (L1.out.trans (N.out.1.mono L1.out.size));have I:Hid (Blk wr w.heap.size 24 #[.slice A is.length c,.int .i64 r]):=hid (ag.out.below N.out.1 ag.out.lt);by_cases hlt:j<is.length
     .have T:(j:Int)<(is.length:Int):=by omega
      have g0:wr.cell? ⟨w.heap.size,0,none⟩=some (.slice A is.length c):=I.out.cell 0;have L:is[j]∈is:=List.getElem_mem hlt;obtain⟨aj,an,ai⟩:=hks _ L;obtain⟨ad,ks,av,rfl,aa,c0,c1,c2,c3,c4,r1,r2,r3,r4⟩:=(H.out.below d.out).node hlt;obtain⟨ka,kn,kc⟩:=ks;obtain⟨ia,aq,ic⟩:=av;have K:Hid ((is.take (j+1)).all (rform sclX is.length)=rform sclX is.length is[j]):=hid (by rw[zb4 _ _ _ hlt,N.out.2,Bool.true_and]);have G:Hid (rform sclX is.length is[j]=false->is.all (rform sclX is.length)=false):=hid (fun h=>by rw[List.all_eq_false];exact⟨_,L,by rw[h];decide⟩);obtain⟨n,hn⟩:=ex (is[j])
      rw[hn]at c0 c1 c2 r1 r2 r3 r4 aj an ai K G;obtain rfl:kn=n.keys.length:=r2;obtain rfl:aq=n.items.length:=r4;have HC:=hid (zrm n.kind n.text n.ord n.keys n.items ka ia kc ic is.length w.heap.size (by omega) ai (by omega) (by omega) wr d.out.size r1 r3);obtain⟨b,hb⟩:=ex (rform sclX is.length n)
      have af:rform sclX is.length ⟨n.kind,n.text,n.ord,n.keys,n.items⟩=b:=hb;rw[af]at HC;rw[hb]at K G;have hjb:j<=1000:=by omega
      clear hb af hn L r1 r3 aa;cases b with
      |false=>
       have k:Hid (rwell sclX is (r:Int)=false):=hid (by rw[ah.out,if_pos (G.out rfl)]);go_wp2_with fail;refine HC.out.mono ?_;rintro e w2 ⟨rfl,m⟩;go_wp2;go_ret;exact⟨by rw[k.out]<;>rfl,d.out.trans (m.mono d.out.size)⟩
      |true=>
       go_wp2_with fail;refine HC.out.mono ?_;rintro e w2 ⟨rfl,m⟩;have HN:Hid (Below M.heap.size M w2/\(is.take (j+1)).all (rform sclX is.length)=true):=hid ⟨N.out.1.trans (m.mono N.out.1.size),K.out⟩;clear m;go_wp2;go_roundw
       case rel=>exact⟨j+1,by omega,by go_num,HN⟩
       case measure=>simp[intOf];omega
     .have T:¬(j:Int)<(is.length:Int):=by omega
      have Y:Hid (is.all (rform sclX is.length)=true):=hid (by have:=N.out.2;rwa[List.take_of_length_le (by omega)]at this);have Z:Hid (is.all (rng is.length)=true):=hid (List.all_eq_true.2 (fun x hx=>zfd (List.all_eq_true.1 Y.out x hx)));have l:Hid (Refs (is.map Gr.Ni.nd)):=hid (za8 Z.out).2;have E:Hid (rwell sclX is (r:Int)=(List.range is.length).all (rnode (is.map Gr.Ni.nd) r)):=hid (by rw[ah.out,Y.out];rfl);obtain⟨a,o⟩:=ex (is.map Gr.Ni.nd)
      have g:a.length=is.length:=by rw[<-o];simp
      have s:Hid (∀n∈a,n.keys.length<=1000/\n.items.length<=1000):=hid (by
       rw[<-o];intro n hn;obtain⟨x,hx,rfl⟩:=List.mem_map.1 hn;have:=hks x hx;simp only[Gr.Ni.nd,List.length_map];omega)
      have D:Hid (∀W,Below w.heap.size w W->GAt W W.heap.size A vs a):=hid (fun W f=>by
       rw[<-o];exact((H.out.below f).more f.size).toG (za8 Z.out).1)
      rw[o]at l E;clear o;have HS:Hid (∀W,Below wr.heap.size wr W->W.cell? ⟨w.heap.size,0,none⟩=some (.slice A is.length c)/\W.cell? ⟨w.heap.size,1,none⟩=some (.int .i64 r)):=hid (fun W f=>by
       have:=I.out.below f I.out.lt;exact⟨this.cell 0,this.cell 1⟩)
      have ae:Hid (∀W,Below wr.heap.size wr W->Calls prog 45 #[.agg #[.slice A is.length c,.int .i64 r],.int .i64 r] W fun e w'=>Below wr.heap.size wr w'/\∃ob,e=.returned (.slice (some ⟨ob,0,none⟩) is.length is.length)/\Blk w' ob 4 (bcells (marks a r))):=hid (fun W f=>by
       rw[<-g];refine(zd9 A c r (r:Int) vs a l.out (by omega) s.out (by omega) W (D.out W (d.out.trans (f.mono d.out.size)))).mono ?_;rintro e w' ⟨ob,h1,h2,B,O⟩;exact⟨f.trans (B.mono f.size),ob,h1,O⟩)
      have R:Hid (∀W,Below wr.heap.size wr W->Calls prog 46 #[.agg #[.slice A is.length c,.int .i64 r]] W fun e w'=>Below wr.heap.size wr w'/\Below W.heap.size W w'/\∃ob,e=.returned (.slice (some ⟨ob,0,none⟩) is.length is.length)/\Blk w' ob 3 (icells (counts a r))):=hid (fun W f=>by
       rw[<-g];refine(zkf A c r vs a l.out (by omega) s.out (by omega) W (D.out W (d.out.trans (f.mono d.out.size)))).mono ?_;rintro e w' ⟨ob,h1,h2,B,O⟩;exact⟨f.trans (B.mono f.size),B,ob,h1,O⟩)
      have U:Hid (∀W,Below wr.heap.size wr W->Calls prog 47 #[.agg #[.slice A is.length c,.int .i64 r]] W fun e w'=>Below wr.heap.size wr w'/\Below W.heap.size W w'/\∃ob,e=.returned (.slice (some ⟨ob,0,none⟩) is.length is.length)/\Blk w' ob 4 (bcells (inKeys a))):=hid (fun W f=>by
       rw[<-g];refine(zkg A c (r:Int) vs a l.out (by omega) s.out W (D.out W (d.out.trans (f.mono d.out.size)))).mono ?_;rintro e w' ⟨ob,h1,h2,B,O⟩;exact⟨f.trans (B.mono f.size),B,ob,h1,O⟩)
      obtain⟨q0,q1⟩:=HS.out wr (Below.refl _ _);go_upto_region 9 with fail;go_cut [5,6,7] (fun s5 s6 s7 wx=>∃o1 o2 o3,s5=.slice (some ⟨o1,0,none⟩) is.length is.length/\s6=.slice (some ⟨o2,0,none⟩) is.length is.length/\s7=.slice (some ⟨o3,0,none⟩) is.length is.length/\Hid (Blk wx o1 4 (bcells (marks a r))/\Blk wx o2 3 (icells (counts a r))/\Blk wx o3 4 (bcells (inKeys a))/\Below wr.heap.size wr wx))
      case first=>
       go_region_held3 (fun w'=>w'.cell? ⟨w.heap.size,0,none⟩=some (.slice A is.length c)/\w'.cell? ⟨w.heap.size,1,none⟩=some (.int .i64 r))
        (first|go_keep|exact HS.out _ (by(first|assumption|exact Below.refl _ _|exact(Below.refl _ _).drew|exact Below.drew (by assumption)))) (first
        | (go_at_call 45;(with_reducible refine(ae.out _ ?_).mono ?_);(first|assumption|exact Below.refl _ _|exact(Below.refl _ _).drew|exact Below.drew (by assumption));rintro e1 wc1 ⟨hb1,o1,rfl,ab⟩)
        | (go_at_call 46;(with_reducible refine(R.out _ ?_).mono ?_);(first|assumption|exact Below.refl _ _|exact(Below.refl _ _).drew|exact Below.drew (by assumption));rintro e2 wc2 ⟨m,ap,o2,rfl,ac⟩)
        | (go_at_call 47;(with_reducible refine(U.out _ ?_).mono ?_);(first|assumption|exact Below.refl _ _|exact(Below.refl _ _).drew|exact Below.drew (by assumption));rintro e3 wc3 ⟨au,S,o3,rfl,ar⟩))
       all_goals
        go_wp2;go_meet
       have z:=ab.below ap ab.lt;exact⟨o1,o2,o3,rfl,rfl,rfl,hid ⟨z.below S z.lt,ac.below S ac.lt,ar,au⟩⟩
      case rest=>
       obtain⟨o1,o2,o3,rfl,rfl,rfl,HO⟩:=hcut;have J:Hid (Below w.heap.size w wc):=hid (d.out.trans (HO.out.2.2.2.mono d.out.size));have C:Hid ((marks a r).length=is.length/\(counts a r).length=is.length/\(inKeys a).length=is.length):=hid ⟨by rw[zbe l.out (by omega),g],by
        unfold counts;rw[zb2,zci,List.length_replicate,g],by rw[zf9 l.out,g]⟩
       have ao:Hid (∀i,(counts a r).getD i 0<=4000000):=hid (fun i=>by
        have h1:∀j,(Gr.refs (a.take j)).length<=2000*j:=fun j=>by
         induction j with
         |zero=>simp[Gr.refs]
         |succ j ih=>
          by_cases hj:j<a.length
          .rw[zdl a j hj];have:=s.out _ (List.getElem_mem hj);simp only[List.length_append];omega
          .rw[List.take_of_length_le (by omega)];rw[List.take_of_length_le (by omega)]at ih;omega
        have h2:=h1 a.length;rw[List.take_length]at h2;unfold counts;have B:=zdk (Gr.refs a) (cstep (List.replicate a.length 0) r) i;have O:=zen (List.replicate a.length 0) r i;have h5:(List.replicate a.length 0).getD i 0=0:=by simp[List.getD_eq_getElem?_getD,List.getElem?_replicate];split<;>rfl
        omega)
       clear q0 q1 g ae R U HS;go_upto_region 11 with fail;go_loop [8] (fun s8=>∃i:Nat,i<=is.length/\s8=.int .i64 i/\Hid ((List.range i).all (rnode a r)=true)) (fun s8=>is.length-(intOf s8).toNat)
       case atStart=>exact⟨0,by omega,rfl,hid rfl⟩
       case round=>
        obtain⟨i,hi,rfl,HI⟩:=hrel;by_cases hli:i<is.length
        .have Q:(i:Int)<(is.length:Int):=by omega
         obtain⟨p,hp⟩:=ex ((marks a r).getD i false)
         obtain⟨q,hq⟩:=ex ((inKeys a).getD i false)
         obtain⟨v,hv⟩:=ex ((counts a r).getD i 0)
         have hvb:v<=4000000:=by rw[<-hv];exact ao.out i
         have z1:wc.cell? ⟨o1,i,none⟩=some (.bool p):=by rw[HO.out.1.cell,zah (by have:=C.out;omega),hp]
         have z2:wc.cell? ⟨o2,i,none⟩=some (.int .i64 (v:Int)):=by rw[HO.out.2.1.cell,zad (by have:=C.out;omega),hv]
         have z3:wc.cell? ⟨o3,i,none⟩=some (.bool q):=by rw[HO.out.2.2.1.cell,zah (by have:=C.out;omega),hq]
         have y:Hid (rnode a r i=(p && !(q && v != 1))):=hid (by unfold rnode mkd;rw[hp,hq,hv]);have P:Hid (rnode a r i=true->(List.range (i+1)).all (rnode a r)=true):=hid (fun h=>by rw[zro,HI.out,h];rfl);have X:Hid (rnode a r i=false->rwell sclX is (r:Int)=false):=hid (fun h=>by rw[E.out];exact zja hli h);have hib:i<=1000:=by omega
         clear hp hq hv;cases p with
         |false=>
          have k:Hid (rwell sclX is (r:Int)=false):=hid (X.out (by rw[y.out];rfl));go_wp2;go_ret;exact⟨by rw[k.out]<;>rfl,J.out⟩
         |true=>
          cases q with
          |false=>
           have F:Hid ((List.range (i+1)).all (rnode a r)=true):=hid (P.out (by rw[y.out];rfl));go_wp2;go_round
           case rel=>exact⟨i+1,by omega,by go_num,F⟩
           case measure=>simp[intOf];omega
          |true=>
           by_cases hv1:v=1
           .subst hv1;have F:Hid ((List.range (i+1)).all (rnode a r)=true):=hid (P.out (by rw[y.out];rfl));go_wp2;go_round
            case rel=>exact⟨i+1,by omega,by go_num,F⟩
            case measure=>simp[intOf];omega
           .have k:Hid (rwell sclX is (r:Int)=false):=hid (X.out (by
             rw[y.out];have:(v != 1)=true:=by simpa using hv1
             rw[this];rfl))
            have V:¬(v:Int)=1:=by omega
            have hvb2:((v:Int)==1)=false:=by rw[beq_eq_false_iff_ne];exact V
            have hvn:((v:Int) != 1)=true:=by rw[bne_iff_ne];exact V
            go_wp2;go_ret;exact⟨by rw[k.out]<;>rfl,J.out⟩
        .have Q:¬(i:Int)<(is.length:Int):=by omega
         have k:Hid (rwell sclX is (r:Int)=true):=hid (by rw[E.out];have:=HI.out;rwa[show i=is.length from by omega]at this);go_wp2;go_ret;exact⟨by rw[k.out]<;>rfl,J.out⟩
   .have al:(is.length:Int)<=root:=by omega
    have k:Hid (rwell sclX is root=false):=hid (t.out (.inr (by unfold inR;rw[decide_eq_false h2,Bool.and_false])));go_wp2;go_ret;exact⟨by rw[k.out]<;>rfl,L1.out⟩
  .have ak:root<0:=by omega
   have k:Hid (rwell sclX is root=false):=hid (t.out (.inr (by unfold inR;rw[decide_eq_false h1,Bool.false_and])));go_wp2;go_ret;exact⟨by rw[k.out]<;>rfl,L1.out⟩
theorem zrq (d:Nat) (h:d<10) (i:Int) (hi:i=d) (k:Int) (hk:k=d+1) (W:World):(Instr.slice 9 (.string ⟨#[48,49,50,51,52,53,54,55,56,57]⟩) (some (.int .i64 i)) (some (.int .i64 k)) none).run prog W=.ok (.string ⟨(Lib.decDigits d).toArray⟩) W:=by
 rw[Lib.decDigits_one h];subst hi;subst hk;obtain rfl|rfl|rfl|rfl|rfl|rfl|rfl|rfl|rfl|rfl:d=0\/d=1\/d=2\/d=3\/d=4\/d=5\/d=6\/d=7\/d=8\/d=9:=by omega
 all_goals kernel_rfl
theorem ztz {n:Nat} (h:¬n<10):Lib.decDigits n=Lib.decDigits (n /10)++Lib.decDigits (n%10):=by
 rw[Lib.decDigits_one (Nat.mod_lt _ (by omega)),Lib.decDigits.eq_1 n,dif_neg h]
theorem zjb:∀(f n:Nat),n<f->n<=999999999->∀w:World,Calls prog 62 #[.int .i64 n] w fun e w'=>e=.returned (.string ⟨(Lib.decDigits n).toArray⟩)/\Below w.heap.size w w':=by
 intro f
 induction f with
 |zero=>intro n h;omega
 |succ f ih=>
  intro n hn hb w;by_cases h:n<10
  .have u:(n:Int)<10:=by omega
   have l:=zrq n h (n:Int) rfl ((n:Int)+1) rfl;go_enter func62,ntmps62;go_wp2;go_ret;exact⟨rfl,Below.refl _ _⟩
  .have u:¬(n:Int)<10:=by omega
   have l:=zrq (n%10) (Nat.mod_lt _ (by omega)) ((n%10:Nat):Int) rfl (((n%10:Nat):Int)+1) rfl;have p:(n:Int).tdiv 10=((n /10:Nat):Int):=by rw[Int.tdiv_eq_ediv_of_nonneg (by omega)];rfl
   have s:(n:Int).tmod 10=((n%10:Nat):Int):=by rw[Int.tmod_eq_emod_of_nonneg (by omega)];rfl
   have k:=ztz h;have m:Hid (∀x:WB w.heap.size w,Calls prog 62 #[.int .i64 ((n /10:Nat):Int)] x.w fun e w'=>e=.returned (.string ⟨(Lib.decDigits (n /10)).toArray⟩)/\Below w.heap.size w w'):=Lib.hid (fun x=>(ih (n /10) (by omega) (by omega) x.w).mono (fun _ _ ⟨t,r⟩=>⟨t,x.h.trans (r.mono x.h.size)⟩));obtain⟨a,j⟩:=ex (Lib.decDigits (n /10))
   obtain⟨b,c⟩:=ex (Lib.decDigits (n%10))
   obtain⟨q,i⟩:=ex (n /10)
   obtain⟨d,g⟩:=ex (n%10)
   have hadd:=zac a b (by
    have o:=Gr.dec_len (n /10) (by omega);have v:=Gr.dec_len (n%10) (by omega);rw[j]at o;rw[c]at v;omega)
   have y:Hid (Lib.decDigits n=a++b):=Lib.hid (by rw[k,j,c]);rw[j,i]at m;rw[c,g]at l;rw[i]at p;rw[g]at s;have hd9:d<=9:=by omega
   have hqb:q<=99999999:=by omega
   clear k j c i g ih;go_enter func62,ntmps62;go_upto_region 3 with fail;refine zaa w.heap.size w (by kernel_rfl) (by kernel_rfl) (Below.refl _ _) ?_
   repeat (go_big_quiet_step (((first| (with_reducible refine Calls.grow (m.out _))))))
   refine wpQuiet_nil ?_;rintro _ ⟨z,rfl⟩;go_wp2;go_ret;exact⟨by rw[y.out]<;>rfl,z.h⟩
theorem zlq:∀(x y:Gr.Str),Op.bytesLess x y=Gr.ltS x y
 | [],[]=>rfl
 |_::_,[]=>rfl
 | [],_::_=>rfl
 |a::x,b::y=>by
  rw[Op.bytesLess,zlq x y,Gr.ltS]
  congr 1
namespace Gr
theorem zrr (t:Str) (a b:List Str) (h:∀y∈a,ltS t y=true):insR t (a++b)=a++insR t b:=by
 induction a with
 |nil=>rfl
 |cons y a ih=>
  rw[List.cons_append,insR,if_pos (h y (.head _)),ih (fun z c=>h z (.tail _ c))];rfl
theorem zxc (t:Str) (L:List Str) (k:Nat) (hk:k<=L.length) (h1:∀y∈L.drop k,ltS t y=true) (h2:∀j,(h:j<L.length)->j+1=k->ltS t L[j]=false):insL L t=L.take k++t::L.drop k:=by
 unfold insL;have e:L.reverse=(L.drop k).reverse++(L.take k).reverse:=by rw[<-List.reverse_append,List.take_append_drop]
 rw[e,zrr t _ _ (fun y b=>h1 y (List.mem_reverse.1 b)),List.reverse_append,List.reverse_reverse];have c:(insR t (L.take k).reverse).reverse=L.take k++[t]:=by
  cases k with
  |zero=>simp[insR]
  |succ k=>
   have a:k<L.length:=by omega
   rw[List.take_succ_eq_append_getElem a,List.reverse_append,List.reverse_singleton,List.singleton_append,insR,if_neg (by rw[h2 k a rfl];decide)];simp
 rw[c];simp
def wand (L:List Str) (t:Str) (k:Nat):List Str:=L.take k++t::L.drop k
theorem zlr (L:List Str) (t:Str) (k:Nat) (hk:k<=L.length):(wand L t k).length=L.length+1:=by
 unfold wand;simp;omega
theorem zxd (L:List Str) (t:Str) (k:Nat) (hk:k<=L.length):(wand L t k)[k]? =some t:=by
 unfold wand;rw[List.getElem?_append_right (by simp;omega)];simp[Nat.min_eq_left hk]
theorem zt0 (L:List Str) (t:Str) (k:Nat) (hk:k<L.length):(wand L t (k+1))[k]? =some L[k]:=by
 unfold wand;rw[List.getElem?_append_left (by simp;omega),List.getElem?_take,if_pos (by omega),List.getElem?_eq_getElem hk]
theorem zrs (L:List Str) (t:Str) (k:Nat) (hk:k<L.length):((wand L t (k+1)).set k t).set (k+1) L[k]=wand L t k:=by
 unfold wand;apply List.ext_getElem?;intro i;have a:(L.take (k+1)).length=k+1:=by simp;omega
 have hl2:(L.take k).length=k:=by simp;omega
 simp only[List.getElem?_set,List.length_set,List.length_append,List.length_cons,List.length_drop,a];by_cases h1:k+1=i
 .grind
 .grind
theorem zrt (ns:List Nd) (f:Nat) (x:Nd) (i:Nat) (h:i<x.items.length):(ents ns f x).take (i+1)=(ents ns f x).take i++[(if x.kind=10 then printF ns f (x.keys.getD i 0)else[])++printF ns f (x.items.getD i 0)]:=by
 have a:i<(ents ns f x).length:=by unfold ents;simpa using h
 rw[List.take_succ_eq_append_getElem a]
 congr 2
 unfold ents;simp
def entT (ns:List Nd) (f:Nat) (x:Nd) (k:Nat):List Str:=if x.kind=10/\x.ord=false then((ents ns f x).take k).foldl insL []else(ents ns f x).take k
theorem zru (ns:List Nd) (f:Nat) (x:Nd):entT ns f x 0=[]:=by unfold entT;split<;>simp
theorem zrv (ns:List Nd) (f:Nat) (x:Nd) (k:Nat) (h:x.items.length<=k):entT ns f x k=entS ns f x:=by
 have hl:(ents ns f x).length=x.items.length:=by unfold ents;simp
 unfold entT entS sortS;rw[List.take_of_length_le (by omega)]
theorem zt1 (ns:List Nd) (f:Nat) (x:Nd) (k:Nat) (h:k<=x.items.length):(entT ns f x k).length=k:=by
 have hl:(ents ns f x).length=x.items.length:=by unfold ents;simp
 unfold entT;split
 .rw[(zh0 _ []).length_eq];simp;omega
 .simp;omega
theorem zrw (ns:List Nd) (f:Nat) (x:Nd) (k:Nat) (h:k<x.items.length):entT ns f x (k+1)=if x.kind=10/\x.ord=false then insL (entT ns f x k) ((if x.kind=10 then printF ns f (x.keys.getD k 0)else[])++printF ns f (x.items.getD k 0))
 else entT ns f x k++[(if x.kind=10 then printF ns f (x.keys.getD k 0)else[])++printF ns f (x.items.getD k 0)]:=by
 unfold entT;rw[zrt ns f x k h];by_cases hm:x.kind=10/\x.ord=false
 .grind
 .grind
theorem zfu (l:List Str) (i:Nat):(l.take i).flatten.length<=l.flatten.length:=by
 have:l.flatten=(l.take i).flatten++(l.drop i).flatten:=by rw[<-List.flatten_append,List.take_append_drop]
 rw[this,List.length_append];omega
end Gr
def strL:Lay Gr.Str:={enc:=fun x=>[.string ⟨x.toArray⟩],sz:=1,len:=fun _=>rfl,one:=fun x u hu=>by simp at hu;subst hu;rfl,pos:=by omega}
theorem strT:SliceT Tryz.prog strL 74 9 16:=zby strL 74 9 (.string ⟨#[]⟩) 16 Tryz.underlying74 (by kernel_rfl) rfl (by omega)
theorem zet (l:List Gr.Str):strL.all l=l.map (fun x=>Value.string ⟨x.toArray⟩):=by
 induction l with
 |nil=>rfl
 |cons x l ih=>
  have e:strL.all (x::l)=strL.enc x++strL.all l:=rfl;rw[e,ih];rfl
theorem zu5 {w:World} {B:Nat} {A:Option Addr} {l:List Gr.Str} {k:Nat} (h:RowAt strL w B A l) (hk:k<l.length):∃ad,A=some ad/\ad.block<B/\w.cell? (ad.add k)=some (.string ⟨l[k].toArray⟩):=by
 obtain⟨ad,b,a,c,_⟩:=h.get hk;refine⟨ad,b,a,?_⟩;have:=c (.string ⟨l[k].toArray⟩) rfl;rwa[show k*strL.sz=k from Nat.mul_one k]at this
theorem zkh {w:World} {base n c g:Nat} {l:List Gr.Str} (h:OwnRow strL w base 9 (.slice (some ⟨g,0,none⟩) n c) l):∃cur,Blk w g 9 cur/\base<=g/\(∀j (hj:j<l.length),w.cell? ⟨g,j,none⟩=some (.string ⟨l[j].toArray⟩))/\
 (∀j,w.frozen? ⟨g,j,none⟩=false)/\∀j x,j<l.length->OwnRow strL (w.setCell ⟨g,j,none⟩ (.string ⟨x.toArray⟩)) base 9 (.slice (some ⟨g,0,none⟩) n c) (l.set j x):=by
 obtain⟨k,p⟩:=h;rcases p with⟨s,_⟩|⟨g2,cap,cur,r,m,q,e,i,f,a⟩
 .cases s
 .injection r with e1 e2 e3
  injection e1 with e1
  injection e1 with e1 _ _
  subst e1;subst e2;subst e3;have d:Blk w g 9 cur:=q;have b:strL.sz=1:=rfl;rw[b,Nat.mul_one]at a;refine⟨cur,d,m,fun j hj=>?_,d.frozen,fun j x hj=>?_⟩
  .rw[d.cell];have o:(cur.toList.take l.length)[j]? =some (.string ⟨l[j].toArray⟩):=by rw[a,zet];simp[hj]
   rw[List.getElem?_take,if_pos hj]at o;simpa using o
  .refine⟨by rw[zet];rw[zet]at k;simpa using k,.inr ⟨g,c,cur.setIfInBounds j (.string ⟨x.toArray⟩),by rw[List.length_set],m,d.set_ j _,by rw[List.length_set];exact e,i,by simpa using f,?_⟩⟩;rw[b,Nat.mul_one,List.length_set];rw[zet]at a ⊢;rw[List.map_set,<-a,<-List.take_set];simp
end Go.Proofs.YtpjmhafmeieloaaGreatDoor

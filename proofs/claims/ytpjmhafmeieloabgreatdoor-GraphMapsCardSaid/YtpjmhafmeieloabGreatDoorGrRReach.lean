import Derived.Test.YtpjmhafmeieloabGreatDoorZ24
import Derived.Test.YtpjmhafmeieloabGreatDoorZ15
namespace Go.Proofs.YtpjmhafmeieloabGreatDoor
open Gr
open _root_.Go.Proofs.Tryz
open _root_.Go.Lib (hid)
set_option maxRecDepth 100000
set_option maxHeartbeats 16000000
open Go.RowKit
structure RB (w wr:World) (gc:Array Value) (m:List Bool) (v:Value) (L:List Nat):Prop where
 below:Below w.heap.size w wr
 box:Blk wr w.heap.size 27 gc
 met:Blk wr (w.heap.size+1) 4 (bcells m)
 own:OwnRow intL wr (w.heap.size+2) 3 v L
 hd:w.heap.size+2<=wr.heap.size
section
variable {w wr w2:World} {gc:Array Value} {m:List Bool} {v v':Value} {L L':List Nat}
theorem RB.later (h:RB w wr gc m v L) (hb:Below wr.heap.size wr w2):RB w w2 gc m v L:=
 ⟨h.below.trans (hb.mono (by have:=h.hd;omega)),h.box.below hb h.box.lt,h.met.below hb h.met.lt,h.own.later hb,Nat.le_trans h.hd hb.size⟩
theorem RB.alloc (h:RB w wr gc m v L) (o:Obj):RB w (wr.alloc o) gc m v L:=h.later ((Below.refl _ _).alloc (Nat.le_refl _) _)
theorem RB.mark (h:RB w wr gc m v L) (i:Nat) (b:Bool):RB w (wr.setCell ⟨w.heap.size+1,i,none⟩ (.bool b)) gc (m.set i b) v L:=
 ⟨h.below.setCell (by simp) _,h.box.far (by simp) _,by rw[<-zb0];exact h.met.set_ i _,h.own.setCell (fun e=>absurd (h.own.lt _ e).1 (by simp)) _,by have:=h.hd;simp[World.setCell];omega⟩
theorem RB.grown (h:RB w wr gc m v L) (ho:OwnRow intL w2 (w.heap.size+2) 3 v' L') (hg:wr.grownBy w2 v.ownBlock):RB w w2 gc m v' L':=
 ⟨h.below.trans ((h.own.grown_below hg h.hd).mono (by omega)),zbd h.box h.own hg (by omega),zbd h.met h.own hg (by omega),ho,Nat.le_trans h.hd (h.own.grown_below hg h.hd).size⟩
theorem zd2 {w:World} {base:Nat} {E:TypeId} {A:Option Addr} {c n:Nat} {l:List Nat} (h:OwnRow intL w base E (.slice A n c) l):RowAt intL w w.heap.size A l/\n=l.length:=by
 obtain⟨A',c',a,b⟩:=h.form;injection a with e1 e2 e3
 subst e1;exact⟨b,e2⟩
end
theorem ztq {w:World} {base:Nat} {E:TypeId} {v u u':Value} {l:List Nat} (h:v.ownBlock=none\/v.ownBlock≠u.ownBlock) (hN:OwnRow intL w base E v l) (hat:u'.ownBlock=u.ownBlock\/u'.ownBlock=some w.heap.size):v.ownBlock=none\/v.ownBlock≠u'.ownBlock:=by
 rcases hat with e|e
 .rw[e];exact h
 .rw[e];cases e2:v.ownBlock with
  |none=>exact .inl rfl
  |some k=>
   right;intro a;injection a with a
   have:=(hN.lt k e2).2;omega
theorem zq2 {w w2:World} {base:Nat} {E:TypeId} {v u:Value} {l m:List Nat} (hN:OwnRow intL w2 w.heap.size E v l) (hL:OwnRow intL w base E u m):v.ownBlock=none\/v.ownBlock≠u.ownBlock:=by
 cases e2:v.ownBlock with
 |none=>exact .inl rfl
 |some k=>
  right;intro a;have:=(hN.lt k e2).1;have:=(hL.lt k a.symm).2;omega
theorem zfk (w:World):OwnRow intL (w.alloc (.cells #[] 3)).drew w.heap.size 3 (.slice (some ⟨w.heap.size,0,none⟩) ([]:List Nat).length 0) []:=by
 refine⟨by simp[Lay.all],.inr ⟨w.heap.size,0,#[],rfl,Nat.le_refl _,heap_alloc_new w _,Nat.le_refl _,by simp[maxLen],by simp,by simp[Lay.all]⟩⟩
theorem zd3 (A:Option Addr) (c a:Nat) (root:Int) (vs:List NV) (ns:List Gr.Nd) (hr:Refs ns) (hl:ns.length<=1000) (hks:∀n∈ns,n.keys.length<=1000/\n.items.length<=1000) (ha:a<ns.length)
 (w:World) (h:GAt w w.heap.size A vs ns):
 Calls prog 47 #[.agg #[.slice A ns.length c,.int .i64 root],.int .i64 a] w fun e w'=>∃ob,e=.returned (.slice (some ⟨ob,0,none⟩) ns.length ns.length)/\w.heap.size<=ob/\Below w.heap.size w w'/\Blk w' ob 4 (bcells (marks ns a)):=by
 have H:=hid h;have hmk:=fun W=>zb2 ns.length (by omega) W
 have haI:(a:Int)<(ns.length:Int):=by omega
 clear h;go_enter func47,ntmps47;go_upto_region 2 with fail;obtain⟨w2,s⟩:=ex ((w.alloc (.cells #[.slice A ns.length c,.int .i64 root] 27)).alloc (.cells (bcells (List.replicate ns.length false)) 4))
 have l2:Below w.heap.size w w2:=by rw[<-s];exact((Below.refl _ _).alloc (Nat.le_refl _) _).alloc (by simp) _
 have bg:Blk w2 w.heap.size 27 #[.slice A ns.length c,.int .i64 root]:=by rw[<-s];exact(Blk.new _ _ _).alloc _
 have bo:Blk w2 (w.heap.size+1) 4 (bcells (List.replicate ns.length false)):=by
  rw[<-s];have:=Blk.new (w.alloc (.cells #[.slice A ns.length c,.int .i64 root] 27)) 4 (bcells (List.replicate ns.length false));rw[World.size_alloc]at this;exact this
 have aw:w2.heap.size=w.heap.size+2:=by rw[<-s];simp
 have z0:w2.cell? ⟨w.heap.size+1,a,none⟩=some (.bool false):=by
  rw[bo.cell,zah (by simpa using ha)];simp[List.getD_eq_getElem?_getD,ha]
 have zf:∀i,w2.frozen? ⟨w.heap.size+1,i,none⟩=false:=bo.frozen;rw[s];clear s;go_upto_region 3 with fail;obtain⟨w3,r⟩:=ex (w2.setCell ⟨w.heap.size+1,a,none⟩ (.bool true))
 have b3:Blk w3 (w.heap.size+1) 4 (bcells ((List.replicate ns.length false).set a true)):=by rw[<-r,<-zb0];exact bo.set_ a _
 have Y:Blk w3 w.heap.size 27 #[.slice A ns.length c,.int .i64 root]:=by rw[<-r];exact bg.far (by simp) _
 have l3:Below w.heap.size w w3:=by rw[<-r];exact l2.setCell (by simp) _
 have ar:w3.heap.size=w.heap.size+2:=by rw[<-r];simpa[World.setCell]using aw
 rw[r];clear r l2 bg bo z0 zf aw;go_upto_region 4 with fail;obtain⟨gc,U⟩:∃gc:Array Value,#[.slice A ns.length c,.int .i64 root]=gc:=⟨_,rfl⟩
 have aV:Hid (gc[0]? =some (.slice A ns.length c)):=hid (by rw[<-U];rfl);rw[U]at Y;have HB:Hid (RB w (w3.alloc (.cells #[.int .i64 a] 3)) gc ((List.replicate ns.length false).set a true) (.slice (some ⟨w3.heap.size,0,none⟩) 1 1) [a]):=hid
  ⟨l3.alloc (by omega) _,Y.alloc _,b3.alloc _,OwnRow.lit1 (by omega) a _ rfl,by simp;omega⟩
 have ap:Hid (Bfs (Gr.succ ns) ns.length a ((List.replicate ns.length false).set a true) [a] 0 []):=hid (Bfs.start ha);obtain⟨m0,X⟩:=ex ((List.replicate ns.length false).set a true)
 obtain⟨w4,ag⟩:=ex (w3.alloc (.cells #[.int .i64 a] 3))
 obtain⟨lb,aa⟩:=ex (w.heap.size+2)
 rw[X,ag,ar,aa]at HB;rw[X]at ap;(try rw[ag]);(try rw[aa]);clear U l3 Y b3 ar X ag aa;go_upto_region 5 with fail;go_loopw [6,7] (fun s6 s7 wr=>∃(i:Nat) (m:List Bool) (L:List Nat) (A1:Option Addr) (c1:Nat),i<=L.length/\s7=.int .i64 i/\s6=.slice A1 L.length c1/\Hid (RB w wr gc m (.slice A1 L.length c1) L/\Bfs (Gr.succ ns) ns.length a m L i [])) (fun _ s7 _=>ns.length-(intOf s7).toNat)
 case atStart=>exact⟨0,m0,[a],some ⟨lb,0,none⟩,1,by simp,rfl,rfl,hid ⟨HB.out,ap.out⟩⟩
 case round=>
  obtain⟨i,m,L,A1,c1,hi,rfl,rfl,t⟩:=hrel;obtain⟨Q,aI⟩:∃Q,Q=wr:=⟨_,rfl⟩
  subst aI;have HLN:Hid (L.length<=ns.length):=hid t.out.2.len_le;by_cases hil:i<L.length
  .have aG:(i:Int)<(L.length:Int):=by omega
   obtain⟨u,hu⟩:=ex (L[i])
   have Z:u<ns.length:=by rw[<-hu];exact t.out.2.lt _ (List.getElem_mem hil)
   obtain⟨J,rfl,_,y0⟩:=zae (zd2 t.out.1.own).1 hil;rw[hu]at y0;have HU:Hid (L[i]? =some u):=hid (by rw[<-hu];exact List.getElem?_eq_getElem hil);obtain⟨z,k,i2,rfl,B⟩:=(H.out.below t.out.1.below).node Z;obtain⟨ka,kn,kc⟩:=k;obtain⟨M,aP,ic⟩:=i2;have ac:ns[u]∈ns:=List.getElem_mem Z;obtain⟨aO,aq⟩:=hks _ ac;have G:Hid (Gr.succ ns u=ns[u].keys++ns[u].items/\∀x∈ns[u].keys++ns[u].items,x<ns.length):=hid ⟨zdb Z,hr _ ac⟩;obtain⟨n,hn⟩:=ex (ns[u])
   rw[hn]at B G aO aq;obtain rfl:kn=n.keys.length:=B.kn;obtain rfl:aP=n.items.length:=B.inn;have x0:=B.c0;have x1:=B.c1;have x2:=B.c2;have x3:=B.c3;have x4:=B.c4;have g0:Q.cell? ⟨w.heap.size,0,none⟩=some (.slice (some z) ns.length c):=by rw[t.out.1.box.cell];exact aV.out
   have hunI:(u:Int)<(ns.length:Int):=by omega
   have an:Hid (RowAt intL Q w.heap.size ka n.keys/\RowAt intL Q w.heap.size M n.items):=hid ⟨B.keys,B.items⟩;clear B ac hn hu;go_upto_region 7 with fail;go_cut [8] (fun s8 wx=>∃g8,s8=.pointer (some ⟨g8,0,none⟩)/\Hid (Blk wx g8 40 #[.int .i64 n.kind,.string ⟨n.text.toArray⟩,.bool n.ord,.slice ka n.keys.length kc,.slice M n.items.length ic]/\Below Q.heap.size Q wx))
   case first=>
    go_region_held3 (fun w'=>w'.cell? ⟨w.heap.size,0,none⟩=some (.slice (some z) ns.length c)/\w'.cell? (J.add i)=some (.int .i64 u)/\
     w'.cell? (z.add (u*5))=some (.int .i64 n.kind)/\w'.cell? {block:=(z.add (u*5)).block,off:=(z.add (u*5)).off+1}=some (.string ⟨n.text.toArray⟩)/\w'.cell? {block:=(z.add (u*5)).block,off:=(z.add (u*5)).off+2}=some (.bool n.ord)/\
     w'.cell? {block:=(z.add (u*5)).block,off:=(z.add (u*5)).off+3}=some (.slice ka n.keys.length kc)/\w'.cell? {block:=(z.add (u*5)).block,off:=(z.add (u*5)).off+4}=some (.slice M n.items.length ic))
      (first|go_keep| (simp[go_sem])) (fail)
    all_goals
     go_wp2;go_meet
    exact⟨Q.heap.size,rfl,hid ⟨Blk.new _ _ _,((Below.refl _ _).alloc (Nat.le_refl _) _).drew⟩⟩
   case rest=>
    obtain⟨g8,rfl,g⟩:=hcut;have O:Hid (RB w wc gc m (.slice (some J) L.length c1) L/\Bfs (Gr.succ ns) ns.length a m L i []):=hid ⟨t.out.1.later g.out.2,t.out.2⟩;have s3:wc.cell? ⟨g8,3,none⟩=some (.slice ka n.keys.length kc):=g.out.1.cell 3;have s4:wc.cell? ⟨g8,4,none⟩=some (.slice M n.items.length ic):=g.out.1.cell 4;clear x0 x1 x2 x3 x4 g0 y0;go_upto_region 8 with fail;obtain⟨d,aM⟩:∃d,d=wc:=⟨_,rfl⟩
    subst aM;go_cut [9] (fun s9 wx=>∃A2 c2,s9=.slice A2 (n.keys.length+n.items.length) c2/\Hid (OwnRow intL wx d.heap.size 3 (.slice A2 (n.keys.length+n.items.length) c2) (n.keys++n.items)/\Below d.heap.size d wx))
    case first=>
     have s3a:(d.alloc (.cells #[] 3)).cell? ⟨g8,3,none⟩=some (.slice ka n.keys.length kc):=(g.out.1.alloc _).cell 3;have s4a:(d.alloc (.cells #[] 3)).cell? ⟨g8,4,none⟩=some (.slice M n.items.length ic):=(g.out.1.alloc _).cell 4;have E:OwnRow intL (d.alloc (.cells #[] 3)).drew d.heap.size 3 (.slice (some ⟨d.heap.size,0,none⟩) ([]:List Nat).length 0) []:=zfk d;have ab:Below w.heap.size Q (d.alloc (.cells #[] 3)).drew:=by
      have:=t.out.1.below.size;exact below_drewN ((g.out.2.mono this).alloc (Nat.le_trans this g.out.2.size) _) 1
     have av:RowAt intL (d.alloc (.cells #[] 3)).drew w.heap.size ka n.keys:=an.out.1.below ab;have S:RowAt intL (d.alloc (.cells #[] 3)).drew w.heap.size M n.items:=an.out.2.below ab;have T:Hid (d.heap.size<=(d.alloc (.cells #[] 3)).drew.heap.size/\w.heap.size<=d.heap.size/\g8<d.heap.size):=hid ⟨by simp,Nat.le_trans t.out.1.below.size g.out.2.size,g.out.1.lt⟩;have aA:Hid (Blk (d.alloc (.cells #[] 3)).drew g8 40 #[.int .i64 n.kind,.string ⟨n.text.toArray⟩,.bool n.ord,.slice ka n.keys.length kc,.slice M n.items.length ic]/\RowAt intL (d.alloc (.cells #[] 3)).drew w.heap.size M n.items):=hid ⟨g.out.1.alloc _,S⟩;have aL:([]:List Nat).length+n.keys.length<=1073741824:=by simp;omega
     have aN:n.keys.length+n.items.length<=1073741824:=by omega
     have ae:=T.out.1;clear ab S;go_region_law (first
      | (refine zai _ rfl (.tmp 34) (.tmp 36) 38 3 8 rfl intT d.heap.size (.slice (some ⟨d.heap.size,0,none⟩) ([]:List Nat).length 0) [] rfl E _ _ kc n.keys rfl av aL ae ?_;intro v1 w1 l ai ax;rw[List.nil_append]at l;obtain⟨A8,c8,aJ,_⟩:=l.form;subst aJ;have F:=E.grown_below ai ae;have s41:w1.cell? ⟨g8,4,none⟩=some (.slice M n.items.length ic):=(aA.out.1.below F T.out.2.2).cell 4;have ay:RowAt intL w1 w.heap.size M n.items:=aA.out.2.below (F.mono T.out.2.1);have aD:d.heap.size<=w1.heap.size:=Nat.le_trans ae F.size;have aW:=hid F;clear ai ax F)
      | (refine zai _ rfl (.tmp 37) (.tmp 39) 38 3 8 rfl intT d.heap.size (.slice A8 n.keys.length c8) n.keys rfl l _ _ ic n.items rfl ay aN aD ?_;intro v2 w2 p aC az;obtain⟨A9,c9,aH,_⟩:=p.form;rw[List.length_append]at aH;subst aH;have aS:Hid (OwnRow intL w2 d.heap.size 3 (.slice A9 (n.keys.length+n.items.length) c9) (n.keys++n.items)/\Below d.heap.size d w2):=hid ⟨p,(below_drewN ((Below.refl _ _).alloc (Nat.le_refl _) _) 1).trans (aW.out.trans (l.grown_below aC aD))⟩;clear p aC az))
     all_goals
      go_wp2;go_meet;exact⟨A9,c9,rfl,aS⟩
    case rest=>
     obtain⟨A2,c2,rfl,HN⟩:=hcut;have aT:Hid (RB w wc gc m (.slice (some J) L.length c1) L):=hid (O.out.1.later HN.out.2);have ak:Hid ((Value.slice A2 (n.keys.length+n.items.length) c2).ownBlock=none\/(Value.slice A2 (n.keys.length+n.items.length) c2).ownBlock≠(Value.slice (some J) L.length c1).ownBlock):=hid (zq2 HN.out.1 O.out.1.own);have aF:Hid (OwnRow intL wc (w.heap.size+2) 3 (.slice A2 (n.keys.length+n.items.length) c2) (n.keys++n.items)):=hid (HN.out.1.lower O.out.1.hd);obtain⟨I,R⟩:=ex (n.keys++n.items)
     obtain⟨q,P⟩:=ex (n.keys.length+n.items.length)
     have hnn:I.length=q:=by rw[<-R,<-P];simp
     have hnb:q<=2000:=by omega
     rw[P,R]at aF;rw[P]at ak;rw[R]at G;(try rw[P]);clear HN R s3 s4;go_upto_region 10 with fail;go_loopw [6,10] (fun s6 s10 wr=>∃(k:Nat) (m:List Bool) (L:List Nat) (A1:Option Addr) (c1:Nat),k<=q/\s10=.int .i64 k/\s6=.slice A1 L.length c1/\Hid (RB w wr gc m (.slice A1 L.length c1) L/\Bfs (Gr.succ ns) ns.length a m L i (I.take k)/\L[i]? =some u/\OwnRow intL wr (w.heap.size+2) 3 (.slice A2 q c2) I/\((Value.slice A2 q c2).ownBlock=none\/(Value.slice A2 q c2).ownBlock≠(Value.slice A1 L.length c1).ownBlock))) (fun _ s10 _=>q-(intOf s10).toNat)
     case atStart=>exact⟨0,m,L,some J,c1,by omega,rfl,rfl,hid ⟨aT.out,by simpa using O.out.2,HU.out,aF.out,ak.out⟩⟩
     case round=>
      obtain⟨k,K,o,A3,c3,hk,rfl,rfl,f⟩:=hrel;by_cases hlk:k<q
      .have aB:(k:Int)<(q:Int):=by omega
       have y:k<I.length:=by omega
       obtain⟨x,hx⟩:=ex (I[k])
       obtain⟨C,rfl,hb3,y0⟩:=zae (zd2 f.out.2.2.2.1).1 y;rw[hx]at y0;have aR:x<ns.length:=G.out.2 x (by rw[<-hx];exact List.getElem_mem y);have hxI:(x:Int)<(ns.length:Int):=by omega
       have aK:Hid (x∈Gr.succ ns u):=hid (by rw[G.out.1,<-hx];exact List.getElem_mem y);have ah:Hid (I.take (k+1)=I.take k++[x]):=hid (by rw[List.take_succ_eq_append_getElem y,hx]);have aU:=f.out.2.1.ml;obtain⟨b,hb⟩:=ex (K.getD x false)
       have z0:wr.cell? ⟨w.heap.size+1,x,none⟩=some (.bool b):=by rw[f.out.1.met.cell,zah (by omega),hb]
       have zf:∀j,wr.frozen? ⟨w.heap.size+1,j,none⟩=false:=f.out.1.met.frozen;have hkb:k<=2000:=by omega
       clear aU;cases b with
       |true=>
        have al:Hid (Bfs (Gr.succ ns) ns.length a K o i (I.take (k+1))):=hid (by rw[ah.out];exact f.out.2.1.old hb);clear hb;go_wp2;go_roundw
        case rel=>exact⟨k+1,K,o,A3,c3,by omega,by go_num,rfl,hid ⟨f.out.1,al.out,f.out.2.2⟩⟩
        case measure=>simp[intOf];omega
       |false=>
        have ao:Hid (Bfs (Gr.succ ns) ns.length a (K.set x true) (o++[x]) i (I.take (k+1))):=hid (by rw[ah.out];exact f.out.2.1.new f.out.2.2.1 aK.out aR hb);obtain⟨wm,N⟩:=ex (wr.setCell ⟨w.heap.size+1,x,none⟩ (.bool true))
        have HM:Hid (RB w wm gc (K.set x true) (.slice A3 o.length c3) o/\OwnRow intL wm (w.heap.size+2) 3 (.slice (some C) q c2) I):=hid ⟨by rw[<-N];exact f.out.1.mark x true,by rw[<-N];exact f.out.2.2.2.1.setCell (fun e=>absurd (f.out.2.2.2.1.lt _ e).1 (by simp)) _⟩;have y1:wm.cell? (C.add k)=some (.int .i64 x):=by
         obtain⟨ad4,e4,_,y4⟩:=zae (zd2 HM.out.2).1 y;injection e4 with e4
         subst e4;rw[hx]at y4;exact y4
        have V:Hid (o.length+1<=1001/\w.heap.size+2<=wm.heap.size):=hid ⟨by have:=f.out.2.1.len_le;omega,HM.out.1.hd⟩;clear hb hx;go_upto_region 14 with fail;(try rw[N]);clear N z0 zf y0;go_wp2_with (at_builtin;go_must (refine zaa _ rfl (.tmp 61) (.tmp 66) 38 3 8 rfl intT (w.heap.size+2) (.slice A3 o.length c3) o rfl (HM.out.1.own.alloc _) _ _ 1 [x] rfl (RowAt.lit1 _ _ rfl _ ?_) ?_ ?_ ?_))
        any_goals (first|rfl| (have:=V.out;omega)| (have:=V.out;simp;omega)| (rw[World.size_alloc];have:=V.out;omega))
        intro v' w5 D hg aj;have af:Hid (RB w w5 gc (K.set x true) v' (o++[x])/\OwnRow intL w5 (w.heap.size+2) 3 (.slice (some C) q c2) I/\((Value.slice (some C) q c2).ownBlock=none\/(Value.slice (some C) q c2).ownBlock≠v'.ownBlock)):=hid ⟨(HM.out.1.alloc _).grown D hg,World.ownsRow.kept (HM.out.2.alloc _) hg f.out.2.2.2.2,ztq f.out.2.2.2.2 (HM.out.2.alloc (.cells #[.int .i64 x] 3)) (by rw[World.size_alloc];exact aj)⟩;have au:Hid ((o++[x])[i]? =some u):=hid (by
         have h1:=f.out.2.2.1;rw[List.getElem?_append_left]
         .exact h1
         .rcases Nat.lt_or_ge i o.length with h2|h2
          .exact h2
          .rw[List.getElem?_eq_none h2]at h1;cases h1)
        obtain⟨A5,c5,aE,_⟩:=D.form;obtain⟨L5,am⟩:=ex (o++[x])
        rw[am]at ao af au aE;subst aE;clear D hg aj am;go_wp2;go_roundw
        case rel=>exact⟨k+1,K.set x true,L5,A5,c5,by omega,by go_num,rfl,hid ⟨af.out.1,ao.out,au.out,af.out.2⟩⟩
        case measure=>simp[intOf];omega
      .have aB:¬(k:Int)<(q:Int):=by omega
       have HE:Hid (RB w wr gc K (.slice A3 o.length c3) o/\Bfs (Gr.succ ns) ns.length a K o (i+1) []):=hid ⟨f.out.1,f.out.2.1.next f.out.2.2.1 (by rw[G.out.1,List.take_of_length_le (by omega)])⟩;have aQ:i+1<=o.length:=by
        have h1:=f.out.2.2.1;rcases Nat.lt_or_ge i o.length with h2|h2
        .exact h2
        .rw[List.getElem?_eq_none h2]at h1;cases h1
       have hln:=f.out.2.1.len_le;have hib:i<=2000:=by omega
       go_wp2;go_roundw
       case rel=>exact⟨i+1,K,o,A3,c3,aQ,by go_num,rfl,HE⟩
       case measure=>simp[intOf];omega
  .have aG:¬(i:Int)<(L.length:Int):=by omega
   have HE:Hid (m=marks ns a):=hid (t.out.2.marks hr ha (by omega));go_wp2;go_ret;exact⟨w.heap.size+1,rfl,by omega,t.out.1.below,by rw[<-HE.out];exact t.out.1.met⟩
end Go.Proofs.YtpjmhafmeieloabGreatDoor

import Derived.Test.YtoigpackhninoaaGreatDoorZ26
import Derived.Test.YtoigpackhninoaaGreatDoorZ12
import Derived.StillTailTactics
namespace Go.Proofs.YtoigpackhninoaaGreatDoor
open Gr
open _root_.Go.Proofs.Tryz
open _root_.Go.Lib (hid)
set_option maxRecDepth 100000
set_option maxHeartbeats 16000000
open Go.RowKit
structure RB (w wr:World) (gc:Array Value) (m:List Bool) (v:Value) (L:List Nat):Prop where
 below:Below w.heap.size w wr
 box:Blk wr w.heap.size 24 gc
 met:Blk wr (w.heap.size+1) 4 (bcells m)
 own:OwnRow intL wr (w.heap.size+2) 3 v L
 hd:w.heap.size+2<=wr.heap.size
section
variable {w wr w2:World} {gc:Array Value} {m:List Bool} {v v':Value} {L L':List Nat}
theorem RB.later (h:RB w wr gc m v L) (hb:Below wr.heap.size wr w2):RB w w2 gc m v L:=
 ⟨h.below.trans (hb.mono (by have:=h.hd;omega)),h.box.below hb h.box.lt,h.met.below hb h.met.lt,h.own.later hb,Nat.le_trans h.hd hb.size⟩
theorem RB.alloc (h:RB w wr gc m v L) (o:Obj):RB w (wr.alloc o) gc m v L:=h.later ((Below.refl _ _).alloc (Nat.le_refl _) _)
theorem RB.drewN (h:RB w wr gc m v L) (n:Nat):RB w (wr.drewN n) gc m v L:=h.later (below_drewN (Below.refl _ _) n)
theorem RB.mark (h:RB w wr gc m v L) (i:Nat) (b:Bool):RB w (wr.setCell ⟨w.heap.size+1,i,none⟩ (.bool b)) gc (m.set i b) v L:=
 ⟨h.below.setCell (by simp) _,h.box.far (by simp) _,by rw[<-zbz];exact h.met.set_ i _,h.own.setCell (fun e=>absurd (h.own.lt _ e).1 (by simp)) _,by have:=h.hd;simp[World.setCell];omega⟩
theorem RB.grown (h:RB w wr gc m v L) (ho:OwnRow intL w2 (w.heap.size+2) 3 v' L') (hg:wr.grownBy w2 v.ownBlock):RB w w2 gc m v' L':=
 ⟨h.below.trans ((h.own.grown_below hg h.hd).mono (by omega)),zbg h.box h.own hg (by omega),zbg h.met h.own hg (by omega),ho,Nat.le_trans h.hd (h.own.grown_below hg h.hd).size⟩
theorem zd6 {w:World} {base:Nat} {E:TypeId} {A:Option Addr} {c n:Nat} {l:List Nat} (h:OwnRow intL w base E (.slice A n c) l):RowAt intL w w.heap.size A l/\n=l.length:=by
 obtain⟨A',c',he,hr⟩:=h.form;injection he with e1 e2 e3
 subst e1;exact⟨hr,e2⟩
end
theorem ztu {w:World} {base:Nat} {E:TypeId} {v u u':Value} {l:List Nat} (h:v.ownBlock=none\/v.ownBlock≠u.ownBlock) (hN:OwnRow intL w base E v l) (hat:u'.ownBlock=u.ownBlock\/u'.ownBlock=some w.heap.size):v.ownBlock=none\/v.ownBlock≠u'.ownBlock:=by
 rcases hat with e|e
 ·rw[e];exact h
 ·rw[e];cases e2:v.ownBlock with
  |none=>exact .inl rfl
  |some k=>
   right;intro h3;injection h3 with h3
   have:=(hN.lt k e2).2;omega
theorem zrh {w w2:World} {base:Nat} {E:TypeId} {v u:Value} {l m:List Nat} (hN:OwnRow intL w2 w.heap.size E v l) (hL:OwnRow intL w base E u m):v.ownBlock=none\/v.ownBlock≠u.ownBlock:=by
 cases e2:v.ownBlock with
 |none=>exact .inl rfl
 |some k=>
  right;intro h3;have:=(hN.lt k e2).1;have:=(hL.lt k h3.symm).2;omega
theorem zfo (w:World):OwnRow intL (w.alloc (.cells #[] 3)).drew w.heap.size 3 (.slice (some ⟨w.heap.size,0,none⟩) ([]:List Nat).length 0) []:=by
 refine⟨by simp[Lay.all],.inr ⟨w.heap.size,0,#[],rfl,Nat.le_refl _,heap_alloc_new w _,Nat.le_refl _,by simp[maxLen],by simp,by simp[Lay.all]⟩⟩
theorem zd7 (A:Option Addr) (c a:Nat) (root:Int) (vs:List NV) (ns:List Gr.Nd) (hr:Refs ns) (hl:ns.length<=1000) (hks:∀n∈ns,n.keys.length<=1000/\n.items.length<=1000) (ha:a<ns.length)
 (w:World) (h:GAt w w.heap.size A vs ns):
 Calls prog 53 #[.agg #[.slice A ns.length c,.int .i64 root],.int .i64 a] w fun e w'=>∃ob,e=.returned (.slice (some ⟨ob,0,none⟩) ns.length ns.length)/\w.heap.size<=ob/\Below w.heap.size w w'/\Blk w' ob 4 (bcells (marks ns a)):=by
 have H:=hid h;have hmk:=fun W=>zb1 ns.length (by omega) W
 have haI:(a:Int)<(ns.length:Int):=by omega
 clear h;go_enter func53,ntmps53;go_upto_region 2 with fail;obtain⟨w2,hw2⟩:=ex ((w.alloc (.cells #[.slice A ns.length c,.int .i64 root] 24)).alloc (.cells (bcells (List.replicate ns.length false)) 4))
 have l2:Below w.heap.size w w2:=by rw[<-hw2];exact((Below.refl _ _).alloc (Nat.le_refl _) _).alloc (by simp) _
 have bg:Blk w2 w.heap.size 24 #[.slice A ns.length c,.int .i64 root]:=by rw[<-hw2];exact(Blk.new _ _ _).alloc _
 have bo:Blk w2 (w.heap.size+1) 4 (bcells (List.replicate ns.length false)):=by
  rw[<-hw2];have:=Blk.new (w.alloc (.cells #[.slice A ns.length c,.int .i64 root] 24)) 4 (bcells (List.replicate ns.length false));rw[World.size_alloc]at this;exact this
 have hs2:w2.heap.size=w.heap.size+2:=by rw[<-hw2];simp
 have z0:w2.cell? ⟨w.heap.size+1,a,none⟩=some (.bool false):=by
  rw[bo.cell,zah (by simpa using ha)];simp[List.getD_eq_getElem?_getD,ha]
 have zf:∀i,w2.frozen? ⟨w.heap.size+1,i,none⟩=false:=bo.frozen;rw[hw2];clear hw2;go_upto_region 3 with fail;obtain⟨w3,hw3⟩:=ex (w2.setCell ⟨w.heap.size+1,a,none⟩ (.bool true))
 have b3:Blk w3 (w.heap.size+1) 4 (bcells ((List.replicate ns.length false).set a true)):=by rw[<-hw3,<-zbz];exact bo.set_ a _
 have bg3:Blk w3 w.heap.size 24 #[.slice A ns.length c,.int .i64 root]:=by rw[<-hw3];exact bg.far (by simp) _
 have l3:Below w.heap.size w w3:=by rw[<-hw3];exact l2.setCell (by simp) _
 have hs3:w3.heap.size=w.heap.size+2:=by rw[<-hw3];simpa[World.setCell]using hs2
 rw[hw3];clear hw3 l2 bg bo z0 zf hs2;go_upto_region 4 with fail;obtain⟨gc,hgc⟩:∃gc:Array Value,#[.slice A ns.length c,.int .i64 root]=gc:=⟨_,rfl⟩
 have HGC:Hid (gc[0]? =some (.slice A ns.length c)):=hid (by rw[<-hgc];rfl);rw[hgc]at bg3;have HB:Hid (RB w (w3.alloc (.cells #[.int .i64 a] 3)) gc ((List.replicate ns.length false).set a true) (.slice (some ⟨w3.heap.size,0,none⟩) 1 1) [a]):=hid
  ⟨l3.alloc (by omega) _,bg3.alloc _,b3.alloc _,OwnRow.lit1 (by omega) a _ rfl,by simp;omega⟩
 have HBF:Hid (Bfs (Gr.succ ns) ns.length a ((List.replicate ns.length false).set a true) [a] 0 []):=hid (Bfs.start ha);obtain⟨m0,hm0⟩:=ex ((List.replicate ns.length false).set a true)
 obtain⟨w4,hw4⟩:=ex (w3.alloc (.cells #[.int .i64 a] 3))
 obtain⟨lb,hlb⟩:=ex (w.heap.size+2)
 rw[hm0,hw4,hs3,hlb]at HB;rw[hm0]at HBF;(try rw[hw4]);(try rw[hlb]);clear hgc l3 bg3 b3 hs3 hm0 hw4 hlb;go_upto_region 5 with fail;go_loopw [6,7] (fun s6 s7 wr=>∃(i:Nat) (m:List Bool) (L:List Nat) (A1:Option Addr) (c1:Nat),i<=L.length/\s7=.int .i64 i/\s6=.slice A1 L.length c1/\Hid (RB w wr gc m (.slice A1 L.length c1) L/\Bfs (Gr.succ ns) ns.length a m L i [])) (fun _ s7 _=>ns.length-(intOf s7).toNat)
 case atStart=>exact⟨0,m0,[a],some ⟨lb,0,none⟩,1,by simp,rfl,rfl,hid ⟨HB.out,HBF.out⟩⟩
 case round=>
  obtain⟨i,m,L,A1,c1,hi,rfl,rfl,HR⟩:=hrel;obtain⟨wq,hwq⟩:∃wq,wq=wr:=⟨_,rfl⟩
  subst hwq;have HLN:Hid (L.length<=ns.length):=hid HR.out.2.len_le;by_cases hil:i<L.length
  ·have hilI:(i:Int)<(L.length:Int):=by omega
   obtain⟨u,hu⟩:=ex (L[i])
   have hun:u<ns.length:=by rw[<-hu];exact HR.out.2.lt _ (List.getElem_mem hil)
   obtain⟨ad2,rfl,_,y0⟩:=zae (zd6 HR.out.1.own).1 hil;rw[hu]at y0;have HU:Hid (L[i]? =some u):=hid (by rw[<-hu];exact List.getElem?_eq_getElem hil);obtain⟨ad,k,i2,rfl,hN⟩:=(H.out.below HR.out.1.below).node hun;obtain⟨ka,kn,kc⟩:=k;obtain⟨ia,inn,ic⟩:=i2;have hnm:ns[u]∈ns:=List.getElem_mem hun;obtain⟨hkl,hil2⟩:=hks _ hnm;have HSC:Hid (Gr.succ ns u=ns[u].keys++ns[u].items/\∀x∈ns[u].keys++ns[u].items,x<ns.length):=hid ⟨zc8 hun,hr _ hnm⟩;obtain⟨n,hn⟩:=ex (ns[u])
   rw[hn]at hN HSC hkl hil2;obtain rfl:kn=n.keys.length:=hN.kn;obtain rfl:inn=n.items.length:=hN.inn;have x0:=hN.c0;have x1:=hN.c1;have x2:=hN.c2;have x3:=hN.c3;have x4:=hN.c4;have g0:wq.cell? ⟨w.heap.size,0,none⟩=some (.slice (some ad) ns.length c):=by rw[HR.out.1.box.cell];exact HGC.out
   have hunI:(u:Int)<(ns.length:Int):=by omega
   have HNK:Hid (RowAt intL wq w.heap.size ka n.keys/\RowAt intL wq w.heap.size ia n.items):=hid ⟨hN.keys,hN.items⟩;clear hN hnm hn hu;go_upto_region 7 with fail;go_cut [8] (fun s8 wx=>∃g8,s8=.pointer (some ⟨g8,0,none⟩)/\Hid (Blk wx g8 35 #[.int .i64 n.kind,.string ⟨n.text.toArray⟩,.bool n.ord,.slice ka n.keys.length kc,.slice ia n.items.length ic]/\Below wq.heap.size wq wx))
   case first=>
    go_region_held3 (fun w'=>w'.cell? ⟨w.heap.size,0,none⟩=some (.slice (some ad) ns.length c)/\w'.cell? (ad2.add i)=some (.int .i64 u)/\
     w'.cell? (ad.add (u*5))=some (.int .i64 n.kind)/\w'.cell? {block:=(ad.add (u*5)).block,off:=(ad.add (u*5)).off+1}=some (.string ⟨n.text.toArray⟩)/\w'.cell? {block:=(ad.add (u*5)).block,off:=(ad.add (u*5)).off+2}=some (.bool n.ord)/\
     w'.cell? {block:=(ad.add (u*5)).block,off:=(ad.add (u*5)).off+3}=some (.slice ka n.keys.length kc)/\w'.cell? {block:=(ad.add (u*5)).block,off:=(ad.add (u*5)).off+4}=some (.slice ia n.items.length ic))
      (first|go_keep| (simp[go_sem])) (fail)
    all_goals
     go_wp2;go_meet
    exact⟨wq.heap.size,rfl,hid ⟨Blk.new _ _ _,((Below.refl _ _).alloc (Nat.le_refl _) _).drew⟩⟩
   case rest=>
    obtain⟨g8,rfl,HG8⟩:=hcut;have HRC:Hid (RB w wc gc m (.slice (some ad2) L.length c1) L/\Bfs (Gr.succ ns) ns.length a m L i []):=hid ⟨HR.out.1.later HG8.out.2,HR.out.2⟩;have s3:wc.cell? ⟨g8,3,none⟩=some (.slice ka n.keys.length kc):=HG8.out.1.cell 3;have s4:wc.cell? ⟨g8,4,none⟩=some (.slice ia n.items.length ic):=HG8.out.1.cell 4;clear x0 x1 x2 x3 x4 g0 y0;go_upto_region 8 with fail;obtain⟨we,hwe⟩:∃we,we=wc:=⟨_,rfl⟩
    subst hwe;go_cut [9] (fun s9 wx=>∃A2 c2,s9=.slice A2 (n.keys.length+n.items.length) c2/\Hid (OwnRow intL wx we.heap.size 3 (.slice A2 (n.keys.length+n.items.length) c2) (n.keys++n.items)/\Below we.heap.size we wx))
    case first=>
     have s3a:(we.alloc (.cells #[] 3)).cell? ⟨g8,3,none⟩=some (.slice ka n.keys.length kc):=(HG8.out.1.alloc _).cell 3;have s4a:(we.alloc (.cells #[] 3)).cell? ⟨g8,4,none⟩=some (.slice ia n.items.length ic):=(HG8.out.1.alloc _).cell 4;have hownA:OwnRow intL (we.alloc (.cells #[] 3)).drew we.heap.size 3 (.slice (some ⟨we.heap.size,0,none⟩) ([]:List Nat).length 0) []:=zfo we;have hb8:Below w.heap.size wq (we.alloc (.cells #[] 3)).drew:=by
      have:=HR.out.1.below.size;exact below_drewN ((HG8.out.2.mono this).alloc (Nat.le_trans this HG8.out.2.size) _) 1
     have hrkA:RowAt intL (we.alloc (.cells #[] 3)).drew w.heap.size ka n.keys:=HNK.out.1.below hb8;have hrIA:RowAt intL (we.alloc (.cells #[] 3)).drew w.heap.size ia n.items:=HNK.out.2.below hb8;have HWS:Hid (we.heap.size<=(we.alloc (.cells #[] 3)).drew.heap.size/\w.heap.size<=we.heap.size/\g8<we.heap.size):=hid ⟨by simp,Nat.le_trans HR.out.1.below.size HG8.out.2.size,HG8.out.1.lt⟩;have HAA:Hid (Blk (we.alloc (.cells #[] 3)).drew g8 35 #[.int .i64 n.kind,.string ⟨n.text.toArray⟩,.bool n.ord,.slice ka n.keys.length kc,.slice ia n.items.length ic]/\RowAt intL (we.alloc (.cells #[] 3)).drew w.heap.size ia n.items):=hid ⟨HG8.out.1.alloc _,hrIA⟩;have hl1:([]:List Nat).length+n.keys.length<=1073741824:=by simp;omega
     have hl2:n.keys.length+n.items.length<=1073741824:=by omega
     have hws:=HWS.out.1;clear hb8 hrIA;go_region_law (first
      | (refine zax _ rfl (.tmp 34) (.tmp 36) 33 3 8 rfl intT we.heap.size (.slice (some ⟨we.heap.size,0,none⟩) ([]:List Nat).length 0) [] rfl hownA _ _ kc n.keys rfl hrkA hl1 hws ?_;intro v1 w1 hown1 hg1 hat1;rw[List.nil_append]at hown1;obtain⟨A8,c8,hv8,_⟩:=hown1.form;subst hv8;have hb1:=hownA.grown_below hg1 hws;have s41:w1.cell? ⟨g8,4,none⟩=some (.slice ia n.items.length ic):=(HAA.out.1.below hb1 HWS.out.2.2).cell 4;have hrI1:RowAt intL w1 w.heap.size ia n.items:=HAA.out.2.below (hb1.mono HWS.out.2.1);have hw1:we.heap.size<=w1.heap.size:=Nat.le_trans hws hb1.size;have HB1:=hid hb1;clear hg1 hat1 hb1)
      | (refine zax _ rfl (.tmp 37) (.tmp 39) 33 3 8 rfl intT we.heap.size (.slice A8 n.keys.length c8) n.keys rfl hown1 _ _ ic n.items rfl hrI1 hl2 hw1 ?_;intro v2 w2 hown2 hg2 hat2;obtain⟨A9,c9,hv9,_⟩:=hown2.form;rw[List.length_append]at hv9;subst hv9;have HFN:Hid (OwnRow intL w2 we.heap.size 3 (.slice A9 (n.keys.length+n.items.length) c9) (n.keys++n.items)/\Below we.heap.size we w2):=hid ⟨hown2,(below_drewN ((Below.refl _ _).alloc (Nat.le_refl _) _) 1).trans (HB1.out.trans (hown1.grown_below hg2 hw1))⟩;clear hown2 hg2 hat2))
     all_goals
      go_wp2;go_meet;exact⟨A9,c9,rfl,HFN⟩
    case rest=>
     obtain⟨A2,c2,rfl,HN⟩:=hcut;have HRD:Hid (RB w wc gc m (.slice (some ad2) L.length c1) L):=hid (HRC.out.1.later HN.out.2);have HSP:Hid ((Value.slice A2 (n.keys.length+n.items.length) c2).ownBlock=none\/(Value.slice A2 (n.keys.length+n.items.length) c2).ownBlock≠(Value.slice (some ad2) L.length c1).ownBlock):=hid (zrh HN.out.1 HRC.out.1.own);have HNX:Hid (OwnRow intL wc (w.heap.size+2) 3 (.slice A2 (n.keys.length+n.items.length) c2) (n.keys++n.items)):=hid (HN.out.1.lower HRC.out.1.hd);obtain⟨nx,hnx⟩:=ex (n.keys++n.items)
     obtain⟨nl,hnl⟩:=ex (n.keys.length+n.items.length)
     have hnn:nx.length=nl:=by rw[<-hnx,<-hnl];simp
     have hnb:nl<=2000:=by omega
     rw[hnl,hnx]at HNX;rw[hnl]at HSP;rw[hnx]at HSC;(try rw[hnl]);clear HN hnx s3 s4;go_upto_region 10 with fail;go_loopw [6,10] (fun s6 s10 wr=>∃(k:Nat) (m:List Bool) (L:List Nat) (A1:Option Addr) (c1:Nat),k<=nl/\s10=.int .i64 k/\s6=.slice A1 L.length c1/\Hid (RB w wr gc m (.slice A1 L.length c1) L/\Bfs (Gr.succ ns) ns.length a m L i (nx.take k)/\L[i]? =some u/\OwnRow intL wr (w.heap.size+2) 3 (.slice A2 nl c2) nx/\((Value.slice A2 nl c2).ownBlock=none\/(Value.slice A2 nl c2).ownBlock≠(Value.slice A1 L.length c1).ownBlock))) (fun _ s10 _=>nl-(intOf s10).toNat)
     case atStart=>exact⟨0,m,L,some ad2,c1,by omega,rfl,rfl,hid ⟨HRD.out,by simpa using HRC.out.2,HU.out,HNX.out,HSP.out⟩⟩
     case round=>
      obtain⟨k,m1,L1,A3,c3,hk,rfl,rfl,HI⟩:=hrel;by_cases hlk:k<nl
      ·have hlkI:(k:Int)<(nl:Int):=by omega
       have hlx:k<nx.length:=by omega
       obtain⟨x,hx⟩:=ex (nx[k])
       obtain⟨ad3,rfl,hb3,y0⟩:=zae (zd6 HI.out.2.2.2.1).1 hlx;rw[hx]at y0;have hxn:x<ns.length:=HSC.out.2 x (by rw[<-hx];exact List.getElem_mem hlx);have hxI:(x:Int)<(ns.length:Int):=by omega
       have HXS:Hid (x∈Gr.succ ns u):=hid (by rw[HSC.out.1,<-hx];exact List.getElem_mem hlx);have HTK:Hid (nx.take (k+1)=nx.take k++[x]):=hid (by rw[List.take_succ_eq_append_getElem hlx,hx]);have hml:=HI.out.2.1.ml;obtain⟨b,hb⟩:=ex (m1.getD x false)
       have z0:wr.cell? ⟨w.heap.size+1,x,none⟩=some (.bool b):=by rw[HI.out.1.met.cell,zah (by omega),hb]
       have zf:∀j,wr.frozen? ⟨w.heap.size+1,j,none⟩=false:=HI.out.1.met.frozen;have hkb:k<=2000:=by omega
       clear hml;cases b with
       |true=>
        have HNX2:Hid (Bfs (Gr.succ ns) ns.length a m1 L1 i (nx.take (k+1))):=hid (by rw[HTK.out];exact HI.out.2.1.old hb);clear hb;go_wp2;go_roundw
        case rel=>exact⟨k+1,m1,L1,A3,c3,by omega,by go_num,rfl,hid ⟨HI.out.1,HNX2.out,HI.out.2.2⟩⟩
        case measure=>simp[intOf];omega
       |false=>
        have HBN:Hid (Bfs (Gr.succ ns) ns.length a (m1.set x true) (L1++[x]) i (nx.take (k+1))):=hid (by rw[HTK.out];exact HI.out.2.1.new HI.out.2.2.1 HXS.out hxn hb);obtain⟨wm,hwm⟩:=ex (wr.setCell ⟨w.heap.size+1,x,none⟩ (.bool true))
        have HM:Hid (RB w wm gc (m1.set x true) (.slice A3 L1.length c3) L1/\OwnRow intL wm (w.heap.size+2) 3 (.slice (some ad3) nl c2) nx):=hid ⟨by rw[<-hwm];exact HI.out.1.mark x true,by rw[<-hwm];exact HI.out.2.2.2.1.setCell (fun e=>absurd (HI.out.2.2.2.1.lt _ e).1 (by simp)) _⟩;have y1:wm.cell? (ad3.add k)=some (.int .i64 x):=by
         obtain⟨ad4,e4,_,y4⟩:=zae (zd6 HM.out.2).1 hlx;injection e4 with e4
         subst e4;rw[hx]at y4;exact y4
        have HLL:Hid (L1.length+1<=1001/\w.heap.size+2<=wm.heap.size):=hid ⟨by have:=HI.out.2.1.len_le;omega,HM.out.1.hd⟩;clear hb hx;go_upto_region 14 with fail;(try rw[hwm]);clear hwm z0 zf y0;go_wp2_with (at_builtin;go_must (refine zac _ rfl (.tmp 61) (.tmp 66) 33 3 8 rfl intT (w.heap.size+2) (.slice A3 L1.length c3) L1 rfl (HM.out.1.own.alloc _) _ _ 1 [x] rfl (RowAt.lit1 _ _ rfl _ ?_) ?_ ?_ ?_))
        any_goals (first|rfl| (have:=HLL.out;omega)| (have:=HLL.out;simp;omega)| (rw[World.size_alloc];have:=HLL.out;omega))
        intro v' w5 hown hg hat;have HR5:Hid (RB w w5 gc (m1.set x true) v' (L1++[x])/\OwnRow intL w5 (w.heap.size+2) 3 (.slice (some ad3) nl c2) nx/\((Value.slice (some ad3) nl c2).ownBlock=none\/(Value.slice (some ad3) nl c2).ownBlock≠v'.ownBlock)):=hid ⟨(HM.out.1.alloc _).grown hown hg,World.ownsRow.kept (HM.out.2.alloc _) hg HI.out.2.2.2.2,ztu HI.out.2.2.2.2 (HM.out.2.alloc (.cells #[.int .i64 x] 3)) (by rw[World.size_alloc];exact hat)⟩;have HL5:Hid ((L1++[x])[i]? =some u):=hid (by
         have h1:=HI.out.2.2.1;rw[List.getElem?_append_left]
         ·exact h1
         ·rcases Nat.lt_or_ge i L1.length with h2|h2
          ·exact h2
          ·rw[List.getElem?_eq_none h2]at h1;cases h1)
        obtain⟨A5,c5,hv5,_⟩:=hown.form;obtain⟨L5,hL5⟩:=ex (L1++[x])
        rw[hL5]at HBN HR5 HL5 hv5;subst hv5;clear hown hg hat hL5;go_wp2;go_roundw
        case rel=>exact⟨k+1,m1.set x true,L5,A5,c5,by omega,by go_num,rfl,hid ⟨HR5.out.1,HBN.out,HL5.out,HR5.out.2⟩⟩
        case measure=>simp[intOf];omega
      ·have hlkI:¬(k:Int)<(nl:Int):=by omega
       have HE:Hid (RB w wr gc m1 (.slice A3 L1.length c3) L1/\Bfs (Gr.succ ns) ns.length a m1 L1 (i+1) []):=hid ⟨HI.out.1,HI.out.2.1.next HI.out.2.2.1 (by rw[HSC.out.1,List.take_of_length_le (by omega)])⟩;have hi1:i+1<=L1.length:=by
        have h1:=HI.out.2.2.1;rcases Nat.lt_or_ge i L1.length with h2|h2
        ·exact h2
        ·rw[List.getElem?_eq_none h2]at h1;cases h1
       have hln:=HI.out.2.1.len_le;have hib:i<=2000:=by omega
       go_wp2;go_roundw
       case rel=>exact⟨i+1,m1,L1,A3,c3,hi1,by go_num,rfl,HE⟩
       case measure=>simp[intOf];omega
  ·have hilI:¬(i:Int)<(L.length:Int):=by omega
   have HE:Hid (m=marks ns a):=hid (HR.out.2.marks hr ha (by omega));go_wp2;go_ret;exact⟨w.heap.size+1,rfl,by omega,HR.out.1.below,by rw[<-HE.out];exact HR.out.1.met⟩
theorem zgh {w:World} {B:Nat} {A:Option Addr} {vs:List NV} {ns:List Gr.Nd} (h:GAt w B A vs ns) {j:Nat} {n:Gr.Nd} (hj:j<ns.length) (hn:ns[j]=n):∃ad ka kc ia ic,A=some ad/\w.cell? {block:=(ad.add (j*5)).block,off:=(ad.add (j*5)).off+3}=some (.slice ka n.keys.length kc)/\
 w.cell? {block:=(ad.add (j*5)).block,off:=(ad.add (j*5)).off+4}=some (.slice ia n.items.length ic)/\RowAt intL w B ka n.keys/\RowAt intL w B ia n.items:=by
 subst hn;obtain⟨ad,⟨ka,kn,kc⟩,⟨ia,inn,ic⟩,e,h⟩:=h.node hj;obtain rfl:kn=ns[j].keys.length:=h.kn;obtain rfl:inn=ns[j].items.length:=h.inn;exact⟨ad,ka,kc,ia,ic,e,h.c3,h.c4,h.keys,h.items⟩
structure CB (w wr:World) (gc:Array Value) (m:List Nat):Prop where
 below:Below w.heap.size w wr
 box:Blk wr w.heap.size 24 gc
 out:Blk wr (w.heap.size+1) 3 (icells m)
theorem CB.step {w wr:World} {gc:Array Value} {m:List Nat} (h:CB w wr gc m) (x:Nat):CB w (wr.setCell ⟨w.heap.size+1,x,none⟩ (.int .i64 ((m.getD x 0:Nat)+1))) gc (cstep m x):=
 ⟨h.below.setCell (by simp) _,h.box.far (by simp) _,by
  unfold cstep;rw[<-zau];exact h.out.set_ x _⟩
theorem zkg (A:Option Addr) (c root:Nat) (vs:List NV) (ns:List Gr.Nd) (hr:Refs ns) (hl:ns.length<=1000) (hks:∀n∈ns,n.keys.length<=1000/\n.items.length<=1000) (ha:root<ns.length)
 (w:World) (h:GAt w w.heap.size A vs ns):
 Calls prog 67 #[.agg #[.slice A ns.length c,.int .i64 root]] w fun e w'=>∃ob,e=.returned (.slice (some ⟨ob,0,none⟩) ns.length ns.length)/\w.heap.size<=ob/\Below w.heap.size w w'/\Blk w' ob 3 (icells (counts ns root)):=by
 have H:=hid h;have hmk:=fun W=>zb0 ns.length (by omega) W
 have haI:(root:Int)<(ns.length:Int):=by omega
 have HRL:Hid (∀j,(Gr.refs (ns.take j)).length<=2000*j):=hid (fun j=>by
  induction j with
  |zero=>simp[Gr.refs]
  |succ j ih=>
   by_cases hj:j<ns.length
   ·rw[zdj ns j hj];have:=hks _ (List.getElem_mem hj);simp only[List.length_append];omega
   ·rw[List.take_of_length_le (by omega)];rw[List.take_of_length_le (by omega)]at ih;omega)
 clear h;go_enter func67,ntmps67;go_upto_region 2 with fail;obtain⟨w2,hw2⟩:=ex ((w.alloc (.cells #[.slice A ns.length c,.int .i64 root] 24)).alloc (.cells (icells (List.replicate ns.length 0)) 3))
 obtain⟨gc,hgc⟩:∃gc:Array Value,#[.slice A ns.length c,.int .i64 root]=gc:=⟨_,rfl⟩
 have HGC:Hid (gc[0]? =some (.slice A ns.length c)/\gc[1]? =some (.int .i64 root)):=hid (by rw[<-hgc];exact⟨rfl,rfl⟩);have c2:CB w w2 gc (List.replicate ns.length 0):=by
  refine⟨by rw[<-hw2];exact((Below.refl _ _).alloc (Nat.le_refl _) _).alloc (by simp) _,by rw[<-hw2,<-hgc];exact(Blk.new _ _ _).alloc _,?_⟩;rw[<-hw2];have:=Blk.new (w.alloc (.cells #[.slice A ns.length c,.int .i64 root] 24)) 3 (icells (List.replicate ns.length 0));rw[World.size_alloc]at this;exact this
 have g1:w2.cell? ⟨w.heap.size,1,none⟩=some (.int .i64 root):=by rw[c2.box.cell];exact HGC.out.2
 have e0:(List.replicate ns.length 0).getD root 0=0:=by simp[List.getD_eq_getElem?_getD,ha]
 have z0:w2.cell? ⟨w.heap.size+1,root,none⟩=some (.int .i64 0):=by
  rw[c2.out.cell,zad (by simpa using ha),e0];rfl
 have zf:∀i,w2.frozen? ⟨w.heap.size+1,i,none⟩=false:=c2.out.frozen;have HC3:=c2.step root;rw[e0]at HC3;obtain⟨l0,hl0⟩:=ex (cstep (List.replicate ns.length 0) root)
 have HL0:Hid (l0.length=ns.length/\(∀x,l0.getD x 0<=1)/\counts ns root=(Gr.refs ns).foldl cstep l0):=hid (by
  rw[<-hl0];refine⟨by rw[zch];simp,fun x=>?_,rfl⟩;have:=zen (List.replicate ns.length 0) root x;have e:(List.replicate ns.length 0).getD x 0=0:=by simp[List.getD_eq_getElem?_getD,List.getElem?_replicate];split<;>rfl
  omega)
 rw[hl0]at HC3;rw[hw2];clear hw2 hgc c2;go_upto_region 3 with fail;obtain⟨w3,hw3⟩:=ex (w2.setCell ⟨w.heap.size+1,root,none⟩ (.int .i64 1))
 have HC3:Hid (CB w w3 gc l0):=hid (by rw[<-hw3];exact HC3);rw[hw3];clear hw3 hl0 g1 z0 zf e0 hmk;go_upto_region 4 with fail;go_loopw [4] (fun s4 wr=>∃j:Nat,j<=ns.length/\s4=.int .i64 j/\Hid (CB w wr gc ((Gr.refs (ns.take j)).foldl cstep l0))) (fun s4 _=>ns.length-(intOf s4).toNat)
 case atStart=>exact⟨0,by omega,rfl,hid (by simpa[Gr.refs]using HC3.out)⟩
 case round=>
  obtain⟨j,hj,rfl,HW⟩:=hrel;have g0:wr.cell? ⟨w.heap.size,0,none⟩=some (.slice A ns.length c):=by rw[HW.out.box.cell];exact HGC.out.1
  by_cases hlt:j<ns.length
  ·have hltI:(j:Int)<(ns.length:Int):=by omega
   have hnm:ns[j]∈ns:=List.getElem_mem hlt;obtain⟨n,hn⟩:=ex (ns[j])
   have HRF:Hid (∀x∈n.keys++n.items,x<ns.length):=hid (by rw[<-hn];exact hr _ hnm);have hkl:n.keys.length<=1000:=by rw[<-hn];exact(hks _ hnm).1
   have hil:n.items.length<=1000:=by rw[<-hn];exact(hks _ hnm).2
   obtain⟨R,hR⟩:=ex (Gr.refs (ns.take j))
   have HRJ:Hid (Gr.refs (ns.take (j+1))=R++(n.keys++n.items)):=hid (by rw[zdj ns j hlt,hR,hn]);have HRB:Hid (R.length<=2000000):=hid (by have:=HRL.out j;rw[hR]at this;omega);have HNR:Hid (∀W,CB w W gc ((Gr.refs (ns.take j)).foldl cstep l0)\/Below w.heap.size w W->∃ad ka kc ia ic,A=some ad/\W.cell? {block:=(ad.add (j*5)).block,off:=(ad.add (j*5)).off+3}=some (.slice ka n.keys.length kc)/\
    W.cell? {block:=(ad.add (j*5)).block,off:=(ad.add (j*5)).off+4}=some (.slice ia n.items.length ic)/\RowAt intL W w.heap.size ka n.keys/\RowAt intL W w.heap.size ia n.items):=hid (fun W hW=>zgh (H.out.below (hW.elim (fun x=>x.below) id)) hlt hn)
   rw[hR]at HW HNR;obtain⟨ad,ka,kc,ia,ic,rfl,x3,x4,_,_⟩:=HNR.out wr (.inl HW.out);clear hnm hR hn;go_upto_region 7 with fail;clear g0 x3 x4;go_loopw [5] (fun s5 wr=>∃k:Nat,k<=n.keys.length/\s5=.int .i64 k/\Hid (CB w wr gc ((R++n.keys.take k).foldl cstep l0))) (fun s5 _=>n.keys.length-(intOf s5).toNat)
   case atStart=>exact⟨0,by omega,rfl,hid (by rw[List.take_zero,List.append_nil];exact HW.out)⟩
   case round=>
    obtain⟨k,hk,rfl,HI⟩:=hrel;have g0:wr.cell? ⟨w.heap.size,0,none⟩=some (.slice (some ad) ns.length c):=by rw[HI.out.box.cell];exact HGC.out.1
    obtain⟨ad1,ka,kc,ia,ic,he,x3,x4,HK,HJ⟩:=HNR.out wr (.inr HI.out.below);injection he with he
    subst he;by_cases hlk:k<n.keys.length
    ·have hlkI:(k:Int)<(n.keys.length:Int):=by omega
     obtain⟨x,hx⟩:=ex (n.keys[k])
     obtain⟨ad2,rfl,_,y0⟩:=zae HK hlk;rw[hx]at y0;have hxn:x<ns.length:=HRF.out x (by simp[<-hx]);have hxI:(x:Int)<(ns.length:Int):=by omega
     obtain⟨acc,hacc⟩:=ex ((R++n.keys.take k).foldl cstep l0)
     have hal:acc.length=ns.length:=by rw[<-hacc,zb2,HL0.out.1]
     have hav:acc.getD x 0<=3000000:=by
      rw[<-hacc];have h1:=zdi (R++n.keys.take k) l0 x;have h2:=HL0.out.2.1 x;have h3:=HRB.out;simp only[List.length_append,List.length_take]at h1;omega
     have hcb:=HI.out;rw[hacc]at hcb;have hstep:=hcb.step x;obtain⟨v,hv⟩:=ex (acc.getD x 0)
     have z0:wr.cell? ⟨w.heap.size+1,x,none⟩=some (.int .i64 (v:Int)):=by rw[hcb.out.cell,zad (by omega),hv]
     have zf:∀i,wr.frozen? ⟨w.heap.size+1,i,none⟩=false:=hcb.out.frozen;rw[hv]at hav hstep;have HN2:Hid (CB w (wr.setCell ⟨w.heap.size+1,x,none⟩ (.int .i64 ((v:Int)+1))) gc ((R++n.keys.take (k+1)).foldl cstep l0)):=hid (by
      rw[zaj _ _ hlk,<-List.append_assoc,List.foldl_append,hacc,hx];exact hstep)
     have hkb:k<=1000:=by omega
     clear hcb hstep hacc hal hv hx HK HJ;go_wp2;go_roundw
     case rel=>exact⟨k+1,by omega,by go_num,HN2⟩
     case measure=>simp[intOf];omega
    ·have hlkI:¬(k:Int)<(n.keys.length:Int):=by omega
     have HE:Hid (CB w wr gc ((R++n.keys).foldl cstep l0)):=hid (by have:=HI.out;rwa[List.take_of_length_le (by omega)]at this);clear HK HJ;go_upto_region 11 with fail;clear g0 x3 x4;go_loopw [6] (fun s6 wr=>∃k:Nat,k<=n.items.length/\s6=.int .i64 k/\Hid (CB w wr gc (((R++n.keys)++n.items.take k).foldl cstep l0))) (fun s6 _=>n.items.length-(intOf s6).toNat)
     case atStart=>exact⟨0,by omega,rfl,hid (by rw[List.take_zero,List.append_nil];exact HE.out)⟩
     case round=>
      obtain⟨k,hk,rfl,HI⟩:=hrel;have g0:wr.cell? ⟨w.heap.size,0,none⟩=some (.slice (some ad) ns.length c):=by rw[HI.out.box.cell];exact HGC.out.1
      obtain⟨ad1,ka,kc,ia,ic,he,x3,x4,HK,HJ⟩:=HNR.out wr (.inr HI.out.below);injection he with he
      subst he;by_cases hlk:k<n.items.length
      ·have hlkI:(k:Int)<(n.items.length:Int):=by omega
       obtain⟨x,hx⟩:=ex (n.items[k])
       obtain⟨ad2,rfl,_,y0⟩:=zae HJ hlk;rw[hx]at y0;have hxn:x<ns.length:=HRF.out x (by simp[<-hx]);have hxI:(x:Int)<(ns.length:Int):=by omega
       obtain⟨acc,hacc⟩:=ex (((R++n.keys)++n.items.take k).foldl cstep l0)
       have hal:acc.length=ns.length:=by rw[<-hacc,zb2,HL0.out.1]
       have hav:acc.getD x 0<=3000000:=by
        rw[<-hacc];have h1:=zdi ((R++n.keys)++n.items.take k) l0 x;have h2:=HL0.out.2.1 x;have h3:=HRB.out;simp only[List.length_append,List.length_take]at h1;omega
       have hcb:=HI.out;rw[hacc]at hcb;have hstep:=hcb.step x;obtain⟨v,hv⟩:=ex (acc.getD x 0)
       have z0:wr.cell? ⟨w.heap.size+1,x,none⟩=some (.int .i64 (v:Int)):=by rw[hcb.out.cell,zad (by omega),hv]
       have zf:∀i,wr.frozen? ⟨w.heap.size+1,i,none⟩=false:=hcb.out.frozen;rw[hv]at hav hstep;have HN2:Hid (CB w (wr.setCell ⟨w.heap.size+1,x,none⟩ (.int .i64 ((v:Int)+1))) gc (((R++n.keys)++n.items.take (k+1)).foldl cstep l0)):=hid (by
        rw[zaj _ _ hlk,<-List.append_assoc,List.foldl_append,hacc,hx];exact hstep)
       have hkb:k<=1000:=by omega
       clear hcb hstep hacc hal hv hx HK HJ;go_wp2;go_roundw
       case rel=>exact⟨k+1,by omega,by go_num,HN2⟩
       case measure=>simp[intOf];omega
      ·have hlkI:¬(k:Int)<(n.items.length:Int):=by omega
       have HE2:Hid (CB w wr gc (((R++n.keys)++n.items).foldl cstep l0)):=hid (by have:=HI.out;rwa[List.take_of_length_le (by omega)]at this);clear HK HJ;have HF:Hid (CB w wr gc ((Gr.refs (ns.take (j+1))).foldl cstep l0)):=hid (by rw[HRJ.out,<-List.append_assoc];exact HE2.out);go_wp2;go_roundw
       case rel=>exact⟨j+1,by omega,by go_num,HF⟩
       case measure=>simp[intOf];omega
  ·have hltI:¬(j:Int)<(ns.length:Int):=by omega
   have HE:Hid (CB w wr gc (counts ns root)):=hid (by rw[HL0.out.2.2];have:=HW.out;rwa[List.take_of_length_le (by omega)]at this);go_wp2;go_ret;exact⟨w.heap.size+1,rfl,by omega,HE.out.below,HE.out.out⟩
structure MB (w wr:World) (gc:Array Value) (m:List Bool):Prop where
 below:Below w.heap.size w wr
 box:Blk wr w.heap.size 24 gc
 out:Blk wr (w.heap.size+1) 4 (bcells m)
 hd:w.heap.size+2<=wr.heap.size
theorem MB.later {w wr w2:World} {gc:Array Value} {m:List Bool} (h:MB w wr gc m) (hb:Below wr.heap.size wr w2):MB w w2 gc m:=
 ⟨h.below.trans (hb.mono h.below.size),h.box.below hb h.box.lt,h.out.below hb h.out.lt,Nat.le_trans h.hd hb.size⟩
theorem MB.set {w wr:World} {gc:Array Value} {m:List Bool} (h:MB w wr gc m) (x:Nat) (b:Bool):MB w (wr.setCell ⟨w.heap.size+1,x,none⟩ (.bool b)) gc (m.set x b):=
 ⟨h.below.setCell (by simp) _,h.box.far (by simp) _,by rw[<-zbz];exact h.out.set_ x _,by have:=h.hd;simpa[World.setCell]using this⟩
def OrTo (o m acc:List Bool) (j:Nat):Prop:=acc.length=o.length/\∀x,mkd acc x=if x<j then(mkd o x || mkd m x)else mkd o x
theorem OrTo.step {o m acc:List Bool} {j:Nat} (h:OrTo o m acc j) (hj:j<o.length):OrTo o m (acc.set j (mkd o j || mkd m j)) (j+1):=by
 refine⟨by simp[h.1],fun x=>?_⟩;have hs:mkd (acc.set j (mkd o j || mkd m j)) x=if x=j then(mkd o j || mkd m j)else mkd acc x:=by
  unfold mkd;simp only[List.getD_eq_getElem?_getD,List.getElem?_set];by_cases e:j=x
  ·subst e;simp[h.1,hj]
  ·rw[if_neg e,if_neg (fun k=>e k.symm)]
 rw[hs,h.2];by_cases e:x=j
 ·subst e;rw[if_pos rfl,if_pos (by omega)]
 ·rw[if_neg e];by_cases e2:x<j
  ·rw[if_pos e2,if_pos (by omega)]
  ·rw[if_neg e2,if_neg (by omega)]
theorem OrTo.last {o m acc:List Bool} {j:Nat} (h:OrTo o m acc j) (hm:o.length=m.length) (hj:o.length<=j):acc=Gr.orM o m:=by
 refine zo6 (by rw[h.1,zo7 hm]) (fun x=>?_);rw[h.2,zue hm];by_cases e:x<j
 ·rw[if_pos e]
 ·rw[if_neg e];have:mkd m x=false:=by unfold mkd;rw[List.getD_eq_getElem?_getD,List.getElem?_eq_none (by omega)];rfl
  rw[this,Bool.or_false]
theorem zkh (A:Option Addr) (c:Nat) (root:Int) (vs:List NV) (ns:List Gr.Nd) (hr:Refs ns) (hl:ns.length<=1000) (hks:∀n∈ns,n.keys.length<=1000/\n.items.length<=1000)
 (w:World) (h:GAt w w.heap.size A vs ns):
 Calls prog 62 #[.agg #[.slice A ns.length c,.int .i64 root]] w fun e w'=>∃ob,e=.returned (.slice (some ⟨ob,0,none⟩) ns.length ns.length)/\w.heap.size<=ob/\Below w.heap.size w w'/\Blk w' ob 4 (bcells (inKeys ns)):=by
 have H:=hid h;have hmk:=fun W=>zb1 ns.length (by omega) W
 have HKL:Hid (∀k∈allKeys ns,k<ns.length):=hid (zji hr);have HML:Hid (∀k,k<ns.length->(marks ns k).length=ns.length):=hid (fun k hk=>zbe hr hk);have HRES:Hid ((allKeys ns).foldl (fun o k=>Gr.orM o (marks ns k)) (List.replicate ns.length false)=inKeys ns):=hid (zjq hr);have HFL:Hid (∀L:List Nat,(∀x∈L,x<ns.length)->(L.foldl (fun o k=>Gr.orM o (marks ns k)) (List.replicate ns.length false)).length=ns.length):=hid (fun L hL=>(zik hr L (List.replicate ns.length false) hL (by simp)).1);clear h;go_enter func62,ntmps62;go_upto_region 2 with fail;obtain⟨w2,hw2⟩:=ex ((w.alloc (.cells #[.slice A ns.length c,.int .i64 root] 24)).alloc (.cells (bcells (List.replicate ns.length false)) 4))
 obtain⟨gc,hgc⟩:∃gc:Array Value,#[.slice A ns.length c,.int .i64 root]=gc:=⟨_,rfl⟩
 have HGC:Hid (gc[0]? =some (.slice A ns.length c)/\gc[1]? =some (.int .i64 root)):=hid (by rw[<-hgc];exact⟨rfl,rfl⟩);obtain⟨o0,ho0⟩:=ex (List.replicate ns.length false)
 have HC2:Hid (MB w w2 gc o0):=hid (by
  refine⟨by rw[<-hw2];exact((Below.refl _ _).alloc (Nat.le_refl _) _).alloc (by simp) _,by rw[<-hw2,<-hgc];exact(Blk.new _ _ _).alloc _,?_,by rw[<-hw2];simp⟩;rw[<-hw2,<-ho0];have:=Blk.new (w.alloc (.cells #[.slice A ns.length c,.int .i64 root] 24)) 4 (bcells (List.replicate ns.length false));rw[World.size_alloc]at this;exact this)
 rw[ho0]at HRES HFL;rw[hw2];clear hw2 hgc hmk ho0;go_upto_region 3 with fail;go_loopw [4] (fun s4 wr=>∃j:Nat,j<=ns.length/\s4=.int .i64 j/\Hid (MB w wr gc ((allKeys (ns.take j)).foldl (fun o k=>Gr.orM o (marks ns k)) o0))) (fun s4 _=>ns.length-(intOf s4).toNat)
 case atStart=>exact⟨0,by omega,rfl,hid (by simpa[allKeys]using HC2.out)⟩
 case round=>
  obtain⟨j,hj,rfl,HW⟩:=hrel;have g0:wr.cell? ⟨w.heap.size,0,none⟩=some (.slice A ns.length c):=by rw[HW.out.box.cell];exact HGC.out.1
  by_cases hlt:j<ns.length
  ·have hltI:(j:Int)<(ns.length:Int):=by omega
   have hnm:ns[j]∈ns:=List.getElem_mem hlt;obtain⟨n,hn⟩:=ex (ns[j])
   have hkl:n.keys.length<=1000:=by rw[<-hn];exact(hks _ hnm).1
   obtain⟨K,hK⟩:=ex (allKeys (ns.take j))
   have HKJ:Hid (allKeys (ns.take (j+1))=K++n.keys):=hid (by rw[zia ns j hlt,hK,hn]);have HKB:Hid (∀x∈K++n.keys,x<ns.length):=hid (fun x hx=>HKL.out x (zkz ns (j+1) x (by rw[HKJ.out];exact hx)));have HNR:Hid (∀W,Below w.heap.size w W->∃ad ka kc ia ic,A=some ad/\W.cell? {block:=(ad.add (j*5)).block,off:=(ad.add (j*5)).off+3}=some (.slice ka n.keys.length kc)/\
    W.cell? {block:=(ad.add (j*5)).block,off:=(ad.add (j*5)).off+4}=some (.slice ia n.items.length ic)/\RowAt intL W w.heap.size ka n.keys/\RowAt intL W w.heap.size ia n.items):=hid (fun W hW=>zgh (H.out.below hW) hlt hn)
   rw[hK]at HW;obtain⟨ad,ka,kc,ia,ic,rfl,x3,x4,_,_⟩:=HNR.out wr HW.out.below;clear hnm hK hn;go_upto_region 6 with fail;clear g0 x3 x4;go_loopw [5] (fun s5 wr=>∃k:Nat,k<=n.keys.length/\s5=.int .i64 k/\Hid (MB w wr gc ((K++n.keys.take k).foldl (fun o k=>Gr.orM o (marks ns k)) o0))) (fun s5 _=>n.keys.length-(intOf s5).toNat)
   case atStart=>exact⟨0,by omega,rfl,hid (by rw[List.take_zero,List.append_nil];exact HW.out)⟩
   case round=>
    obtain⟨k,hk,rfl,HI⟩:=hrel;have g0:wr.cell? ⟨w.heap.size,0,none⟩=some (.slice (some ad) ns.length c):=by rw[HI.out.box.cell];exact HGC.out.1
    have g1:wr.cell? ⟨w.heap.size,1,none⟩=some (.int .i64 root):=by rw[HI.out.box.cell];exact HGC.out.2
    obtain⟨ad1,ka,kc,ia,ic,he,x3,x4,HK,_⟩:=HNR.out wr HI.out.below;injection he with he
    subst he;by_cases hlk:k<n.keys.length
    ·have hlkI:(k:Int)<(n.keys.length:Int):=by omega
     obtain⟨x,hx⟩:=ex (n.keys[k])
     obtain⟨ad2,rfl,_,y0⟩:=zae HK hlk;rw[hx]at y0;have hxn:x<ns.length:=HKB.out x (by simp[<-hx]);obtain⟨o,ho⟩:∃o,(K++n.keys.take k).foldl (fun o k=>Gr.orM o (marks ns k)) o0=o:=⟨_,rfl⟩
     have HOL:Hid (o.length=ns.length):=hid (by rw[<-ho];exact HFL.out _ (fun y hy=>HKB.out y (by
      rcases List.mem_append.1 hy with hy|hy
      ·exact List.mem_append_left _ hy
      ·exact List.mem_append_right _ (List.mem_of_mem_take hy))))
     have HTK:Hid ((K++n.keys.take (k+1)).foldl (fun o k=>Gr.orM o (marks ns k)) o0=Gr.orM o (marks ns x)):=hid (by rw[zaj _ _ hlk,<-List.append_assoc,List.foldl_append,ho,hx];rfl);rw[ho]at HI;have HC:Hid (∀d,Calls prog 53 #[.agg #[.slice (some ad) ns.length c,.int .i64 root],.int .i64 x] (wr.drewN d) fun e w'=>∃ob,e=.returned (.slice (some ⟨ob,0,none⟩) ns.length ns.length)/\wr.heap.size<=ob/\Below wr.heap.size wr w'/\Blk w' ob 4 (bcells (marks ns x))):=hid (fun d=>
      (zd7 (some ad) c x root vs ns hr hl hks hxn (wr.drewN d) (((H.out.below (HI.out.below)).more HI.out.below.size).below (below_drewN (Below.refl _ _) d))).mono (fun e w' ⟨ob,h1,h2,h3,h4⟩=>⟨ob,h1,h2,(below_drewN (Below.refl _ _) d).trans h3,h4⟩))
     have hkb:k<=1000:=by omega
     clear hx ho HK x4;go_upto_region 8 with fail;go_still_tail 10,(by kernel_rfl)
     change wpList _ _ _ _ _ wr.drew;go_wp2_with fail;refine(HC.out 1).mono ?_;rintro e w8 ⟨mb,rfl,hmb,hb8,hbm⟩;have HM8:Hid (MB w w8 gc o):=hid (HI.out.later hb8);have HBM:Hid (Blk w8 mb 4 (bcells (marks ns x))/\w.heap.size+1<mb):=hid ⟨hbm,by have:=HI.out.hd;omega⟩;have HMX:=hid (HML.out x hxn);obtain⟨mx,hmx⟩:=ex (marks ns x)
     rw[hmx]at HBM HTK HMX;clear hmb hb8 hbm g0 g1 x3 y0 hmx;go_upto_region 10 with fail;go_loopw [7] (fun s7 wr=>∃(i:Nat) (acc:List Bool),i<=ns.length/\s7=.int .i64 i/\Hid (MB w wr gc acc/\OrTo o mx acc i/\Blk wr mb 4 (bcells mx))) (fun s7 _=>ns.length-(intOf s7).toNat)
     case atStart=>exact⟨0,o,by omega,rfl,hid ⟨HM8.out,⟨rfl,fun x=>by simp⟩,HBM.out.1⟩⟩
     case round=>
      obtain⟨i,acc,hi,rfl,HJ⟩:=hrel;by_cases hli:i<ns.length
      ·have hliI:(i:Int)<(ns.length:Int):=by omega
       have hal:=HJ.out.2.1.1;have ha0:=HJ.out.2.1.2 i;rw[if_neg (Nat.lt_irrefl i)]at ha0;obtain⟨p,hp⟩:=ex (mkd o i)
       obtain⟨q,hq⟩:=ex (mkd mx i)
       have z0:wr.cell? ⟨w.heap.size+1,i,none⟩=some (.bool p):=by
        rw[HJ.out.1.out.cell,zah (by have:=HOL.out;omega),<-hp,<-ha0];rfl
       have q0:wr.cell? ⟨mb,i,none⟩=some (.bool q):=by
        rw[HJ.out.2.2.cell,zah (by have:=HMX.out;omega),<-hq];rfl
       have zf:∀i,wr.frozen? ⟨w.heap.size+1,i,none⟩=false:=HJ.out.1.out.frozen;have HST:Hid (∀b,b=(p || q)->MB w (wr.setCell ⟨w.heap.size+1,i,none⟩ (.bool b)) gc (acc.set i b)/\OrTo o mx (acc.set i b) (i+1)/\Blk (wr.setCell ⟨w.heap.size+1,i,none⟩ (.bool b)) mb 4 (bcells mx)):=hid (fun b hb=>by
        subst hb;refine⟨HJ.out.1.set _ _,?_,HJ.out.2.2.far (by have:=HBM.out.2;simp;omega) _⟩;have:=HJ.out.2.1.step (by have:=HOL.out;omega);rwa[hp,hq]at this)
       have hib:i<=1000:=by omega
       clear hal ha0 hp hq;cases p with
       |true=>
        go_wp2;go_roundw
        case rel=>exact⟨i+1,acc.set i true,by omega,by go_num,hid (HST.out true rfl)⟩
        case measure=>simp[intOf];omega
       |false=>
        have HQ:Hid (q=(false || q)):=hid (by cases q<;>rfl);go_wp2;go_roundw
        case rel=>exact⟨i+1,acc.set i q,by omega,by go_num,hid (HST.out q HQ.out)⟩
        case measure=>simp[intOf];omega
      ·have hliI:¬(i:Int)<(ns.length:Int):=by omega
       have HF:Hid (MB w wr gc ((K++n.keys.take (k+1)).foldl (fun o k=>Gr.orM o (marks ns k)) o0)):=hid (by
        rw[HTK.out,<-HJ.out.2.1.last (by rw[HOL.out,HMX.out]) (by rw[HOL.out];omega)];exact HJ.out.1)
       go_wp2;go_roundw
       case rel=>exact⟨k+1,by omega,by go_num,HF⟩
       case measure=>simp[intOf];omega
    ·have hlkI:¬(k:Int)<(n.keys.length:Int):=by omega
     have HF:Hid (MB w wr gc ((allKeys (ns.take (j+1))).foldl (fun o k=>Gr.orM o (marks ns k)) o0)):=hid (by rw[HKJ.out];have:=HI.out;rwa[List.take_of_length_le (by omega)]at this);clear HK x4 g1;go_wp2;go_roundw
     case rel=>exact⟨j+1,by omega,by go_num,HF⟩
     case measure=>simp[intOf];omega
  ·have hltI:¬(j:Int)<(ns.length:Int):=by omega
   have HE:Hid (MB w wr gc (inKeys ns)):=hid (by rw[<-HRES.out];have:=HW.out;rwa[List.take_of_length_le (by omega)]at this);go_wp2;go_ret;exact⟨w.heap.size+1,rfl,by omega,HE.out.below,HE.out.out⟩
end Go.Proofs.YtoigpackhninoaaGreatDoor

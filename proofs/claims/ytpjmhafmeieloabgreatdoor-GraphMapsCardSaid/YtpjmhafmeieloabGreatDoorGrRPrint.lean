import Derived.Test.YtpjmhafmeieloabGreatDoorZ26
namespace Go.Proofs.YtpjmhafmeieloabGreatDoor
open Gr
open _root_.Go.Proofs.Tryz
open _root_.Go.Lib (hid)
set_option maxRecDepth 100000
set_option maxHeartbeats 16000000
open Go.RowKit
theorem zln {w:World} {base n c:Nat} {E:TypeId} {A:Option Addr} {l:List Gr.Str} (h:OwnRow strL w base E (.slice A n c) l):RowAt strL w w.heap.size A l:=by
 obtain⟨A',c',e,a⟩:=h.form;injection e with e1 _ _
 subst e1;exact a
theorem zt7 {w:World} {base n c:Nat} {A:Option Addr} {l:List Gr.Str} (h:OwnRow strL w base 9 (.slice A n c) l) (hl:0<l.length):∃g,A=some ⟨g,0,none⟩:=by
 obtain⟨h0,d⟩:=h;rcases d with⟨h2,h3⟩|⟨b,cap,cur,a,hb,hg,hc1,hc2,hc3,hc4⟩
 .omega
 .injection a with e1 e2 e3
  exact⟨b,e1⟩
theorem zt8 (k:Nat) (h:k<=11) (i:Int) (hi:i=k) (j:Int) (hj:j=k+1) (W:World):(Instr.slice 9 (.string ⟨#[97,98,99,100,101,102,103,104,105,106,107,108]⟩) (some (.int .i64 i)) (some (.int .i64 j)) none).run prog W=.ok (.string ⟨([UInt8.ofNat (97+k)]:Gr.Str).toArray⟩) W:=by
 subst hi;subst hj;obtain rfl|rfl|rfl|rfl|rfl|rfl|rfl|rfl|rfl|rfl|rfl|rfl:k=0\/k=1\/k=2\/k=3\/k=4\/k=5\/k=6\/k=7\/k=8\/k=9\/k=10\/k=11:=by omega
 all_goals kernel_rfl
def headS (x:Gr.Nd):Gr.Str:=UInt8.ofNat (97+x.kind.toNat)::(Lib.decDigits x.text.length++58::(x.text++(Lib.decDigits x.items.length++[40])))
theorem zhi {ns:List Gr.Nd} {f i:Nat} {x:Gr.Nd} (h:ns[i]? =some x):printF ns (f+1) i=headS x++(entS ns f x).flatten++(41::(if x.ord=true then[33]else[])):=by
 rw[zam h];unfold headS;simp
structure PrOk (ns:List Gr.Nd) (P:Nat->Prop) (F b:Nat):Prop where
 refs:Refs ns
 next:∀u,P u->∀v∈Gr.succ ns u,P v
 kind:NodesOk ns
 lens:∀n∈ns,n.keys.length<=1000/\n.items.length<=1000/\n.text.length<=1000000
 len:∀f i,f<=F->P i->i<ns.length->(printF ns f i).length<=b
 small:b<=4611686018427387903
structure PM (w wr:World) (gc nc:Array Value) (v:Value) (L:List Gr.Str):Prop where
 below:Below w.heap.size w wr
 gbox:Blk wr w.heap.size 27 gc
 nbox:Blk wr (w.heap.size+1) 40 nc
 own:OwnRow strL wr (w.heap.size+2) 9 v L
 hd:w.heap.size+2<=wr.heap.size
section
variable {w wr w2:World} {gc nc:Array Value} {v v':Value} {L L':List Gr.Str}
theorem PM.later (h:PM w wr gc nc v L) (hb:Below wr.heap.size wr w2):PM w w2 gc nc v L:=
 ⟨h.below.trans (hb.mono h.below.size),h.gbox.below hb h.gbox.lt,h.nbox.below hb h.nbox.lt,h.own.later hb,Nat.le_trans h.hd hb.size⟩
theorem PM.alloc (h:PM w wr gc nc v L) (o:Obj):PM w (wr.alloc o) gc nc v L:=h.later ((Below.refl _ _).alloc (Nat.le_refl _) _)
theorem PM.drewN (h:PM w wr gc nc v L) (n:Nat):PM w (wr.drewN n) gc nc v L:=h.later (below_drewN (Below.refl _ _) n)
theorem PM.grown (h:PM w wr gc nc v L) (ho:OwnRow strL w2 (w.heap.size+2) 9 v' L') (hg:wr.grownBy w2 v.ownBlock):PM w w2 gc nc v' L':=
 ⟨h.below.trans ((h.own.grown_below hg h.hd).mono (by omega)),zbd h.gbox h.own hg (by omega),zbd h.nbox h.own hg (by omega),ho,Nat.le_trans h.hd (h.own.grown_below hg h.hd).size⟩
end
theorem znm (A:Option Addr) (c:Nat) (root:Int) (vs:List NV) (ns:List Gr.Nd) (P:Nat->Prop) (F b:Nat) (hok:PrOk ns P F b) (_hnl:ns.length<=1000):
 ∀(f i:Nat) (w:World),f<=F->i<ns.length->P i->Tall' ns f i->GAt w w.heap.size A vs ns->
 Calls prog 49 #[.agg #[.slice A ns.length c,.int .i64 root],.int .i64 i] w fun e w'=>e=.returned (.string ⟨(printF ns f i).toArray⟩)/\Below w.heap.size w w':=by
 intro f
 induction f with
 |zero=>intro i w _ _ _ h;exact h.elim
 |succ f ih=>
  intro i w hF hi hP hT h;have ai:ns[i]∈ns:=List.getElem_mem hi;obtain⟨bC,bA,bJ⟩:=hok.lens _ ai;obtain⟨bP,bI,aX⟩:=hok.kind _ ai;have aD:=zdb hi;have ac:=zhi (f:=f) (List.getElem?_eq_getElem hi);have a8:=hok.len (f+1) i hF hP hi;have hsm:=hok.small;have aP:Hid (∀x∈ns[i].keys++ns[i].items,x<ns.length/\(printF ns f x).length<=b/\∀W,GAt W W.heap.size A vs ns->Calls prog 49 #[.agg #[.slice A ns.length c,.int .i64 root],.int .i64 x] W fun e w'=>e=.returned (.string ⟨(printF ns f x).toArray⟩)/\Below W.heap.size W w'):=hid (fun x hx=>by
   have a:=hok.refs _ ai x hx;have h2:=hok.next i hP x (by rw[aD];exact hx);exact⟨a,hok.len f x (by omega) h2 a,fun W hW=>ih x W (by omega) a h2 (hT x (by rw[aD];exact hx)) hW⟩)
  have H:=hid h;obtain⟨s,ks,is,rfl,O⟩:=h.node hi;obtain⟨ka,kn,kc⟩:=ks;obtain⟨ia,bE,ic⟩:=is;obtain⟨n,hn⟩:=ex (ns[i])
  rw[hn]at O bC bA bJ bP bI aX ac aP;obtain rfl:kn=n.keys.length:=O.kn;obtain rfl:bE=n.items.length:=O.inn;obtain⟨Y,aS⟩:=ex (w.alloc (.cells #[.slice (some s) ns.length c,.int .i64 root] 27))
  have l1:Below w.heap.size w Y:=by rw[<-aS];exact(Below.refl _ _).alloc (Nat.le_refl _) _
  have b1:Blk Y w.heap.size 27 #[.slice (some s) ns.length c,.int .i64 root]:=by rw[<-aS];exact Blk.new _ _ _
  have bt:Y.heap.size=w.heap.size+1:=by rw[<-aS];simp
  have g0:Y.cell? ⟨w.heap.size,0,none⟩=some (.slice (some s) ns.length c):=b1.cell 0;have M:=O.lt;have c0:Y.cell? (s.add (i*5))=some (.int .i64 n.kind):=(l1.cell M).trans O.c0;have c1:Y.cell? {block:=(s.add (i*5)).block,off:=(s.add (i*5)).off+1}=some (.string ⟨n.text.toArray⟩):=(l1.cell (by exact M)).trans O.c1;have c2:Y.cell? {block:=(s.add (i*5)).block,off:=(s.add (i*5)).off+2}=some (.bool n.ord):=(l1.cell (by exact M)).trans O.c2;have c3:Y.cell? {block:=(s.add (i*5)).block,off:=(s.add (i*5)).off+3}=some (.slice ka n.keys.length kc):=(l1.cell (by exact M)).trans O.c3;have c4:Y.cell? {block:=(s.add (i*5)).block,off:=(s.add (i*5)).off+4}=some (.slice ia n.items.length ic):=(l1.cell (by exact M)).trans O.c4;have hiI:(i:Int)<(ns.length:Int):=by omega
  have bF:Hid (∀W,Below w.heap.size w W->RowAt intL W w.heap.size ka n.keys/\RowAt intL W w.heap.size ia n.items):=hid (fun W hW=>⟨O.keys.below hW,O.items.below hW⟩);have L1:=hid l1;have bj:=hid b1;have I:=hid ac;have aI:=hid a8;clear ih hT h ac aD ai O hn l1 b1 M a8 hP hF;go_enter func49,ntmps49;go_upto_region 2 with fail;obtain⟨w2,aT⟩:=ex (Y.alloc (.cells #[.int .i64 n.kind,.string ⟨n.text.toArray⟩,.bool n.ord,.slice ka n.keys.length kc,.slice ia n.items.length ic] 40))
  obtain⟨nc,aE⟩:∃nc:Array Value,#[.int .i64 n.kind,.string ⟨n.text.toArray⟩,.bool n.ord,.slice ka n.keys.length kc,.slice ia n.items.length ic]=nc:=⟨_,rfl⟩
  obtain⟨gc,az⟩:∃gc:Array Value,#[.slice (some s) ns.length c,.int .i64 root]=gc:=⟨_,rfl⟩
  obtain⟨r,au⟩:∃r:Nat,n.kind=(r:Int):=⟨n.kind.toNat,by omega⟩
  have aA:r<=11:=by omega
  have aa:=hid au;have l:Hid (nc[0]? =some (.int .i64 (r:Int))/\nc[1]? =some (.string ⟨n.text.toArray⟩)/\nc[2]? =some (.bool n.ord)/\nc[3]? =some (.slice ka n.keys.length kc)/\nc[4]? =some (.slice ia n.items.length ic)):=hid (by rw[<-aE,<-au];exact⟨rfl,rfl,rfl,rfl,rfl⟩);have an:Hid (gc[0]? =some (.slice (some s) ns.length c)/\gc[1]? =some (.int .i64 root)):=hid (by rw[<-az];exact⟨rfl,rfl⟩);have V:Hid (PM w w2 gc nc (.slice none 0 0) []):=hid (by
   have hb:=Blk.new Y 40 #[.int .i64 n.kind,.string ⟨n.text.toArray⟩,.bool n.ord,.slice ka n.keys.length kc,.slice ia n.items.length ic];rw[bt]at hb;rw[<-aT,<-aE,<-az];exact⟨L1.out.alloc (by omega) _,bj.out.alloc _,hb,OwnRow.nil,by simp;omega⟩)
  have bi:Hid (∀W,Below w.heap.size w W->RowAt intL W w.heap.size ka n.keys/\RowAt intL W w.heap.size ia n.items):=bF;(try rw[aT]);clear au aT aE az c0 c1 c2 c3 c4 g0 bj;have bd:=zt8 r aA (r:Int) rfl ((r:Int)+1) rfl;have bg:=Gr.dec_len n.text.length (by omega);have aW:=Gr.dec_len n.items.length (by omega);have aL:=hid (fun(x:WB w2.heap.size w2)=>(zi7 (n.text.length+1) n.text.length (by omega) (by omega) x.w).mono (fun _ _ ⟨e1,e2⟩=>(⟨e1,x.h.trans (e2.mono x.h.size)⟩:_/\Below w2.heap.size w2 _)));have aU:=hid (fun(x:WB w2.heap.size w2)=>(zi7 (n.items.length+1) n.items.length (by omega) (by omega) x.w).mono (fun _ _ ⟨e1,e2⟩=>(⟨e1,x.h.trans (e2.mono x.h.size)⟩:_/\Below w2.heap.size w2 _)));have a6:Hid (headS n=UInt8.ofNat (97+r)::(Lib.decDigits n.text.length++58::(n.text++(Lib.decDigits n.items.length++[40])))):=hid (by unfold headS;rw[aa.out];rfl);obtain⟨d1,T⟩:=ex (Lib.decDigits n.text.length)
  obtain⟨d2,Z⟩:=ex (Lib.decDigits n.items.length)
  obtain⟨a0,U⟩:∃a0:Gr.Str,[UInt8.ofNat (97+r)]=a0:=⟨_,rfl⟩
  obtain⟨a1,aj⟩:∃a1:Gr.Str,a0++d1=a1:=⟨_,rfl⟩
  obtain⟨a2,ap⟩:∃a2:Gr.Str,a1++[58]=a2:=⟨_,rfl⟩
  obtain⟨a3,am⟩:∃a3:Gr.Str,a2++n.text=a3:=⟨_,rfl⟩
  obtain⟨a4,ao⟩:∃a4:Gr.Str,a3++d2=a4:=⟨_,rfl⟩
  obtain⟨hd,aJ⟩:∃hd:Gr.Str,a4++[40]=hd:=⟨_,rfl⟩
  have ag:Hid (headS n=hd):=hid (by rw[a6.out,T,Z,<-aJ,<-ao,<-am,<-ap,<-aj,<-U];simp);rw[T]at bg aL;rw[Z]at aW aU;have r1:=zac a0 d1 (by rw[<-U];simp;omega);have bv:a1.length<=100:=by rw[<-aj,<-U];simp;omega
  have r2:=zac a1 [58] (by simp;omega);have bz:a2.length<=101:=by rw[<-ap];simp;omega
  have r3:=zac a2 n.text (by omega);have bO:a3.length<=1000101:=by rw[<-am];simp;omega
  have r4:=zac a3 d2 (by omega);have bK:a4.length<=1000201:=by rw[<-ao];simp;omega
  have r5:=zac a4 [40] (by simp;omega);rw[U]at bd;rw[aj]at r1;rw[ap]at r2;rw[am]at r3;rw[ao]at r4;rw[aJ]at r5;have p0:∀x:WB w2.heap.size w2,x.w.cell? ⟨w.heap.size+1,0,none⟩=some (.int .i64 (r:Int)):=fun x=>by rw[(V.out.later x.h).nbox.cell];exact l.out.1
  have p1:∀x:WB w2.heap.size w2,x.w.cell? ⟨w.heap.size+1,1,none⟩=some (.string ⟨n.text.toArray⟩):=fun x=>by rw[(V.out.later x.h).nbox.cell];exact l.out.2.1
  have p4:∀x:WB w2.heap.size w2,x.w.cell? ⟨w.heap.size+1,4,none⟩=some (.slice ia n.items.length ic):=fun x=>by rw[(V.out.later x.h).nbox.cell];exact l.out.2.2.2.2
  clear T Z U aj ap am ao aJ bg aW bv bz bO bK a6;refine zab w2.heap.size w2 (by kernel_rfl) (by kernel_rfl) (Below.refl _ _) ?_
  repeat (go_big_quiet_step (((first| (with_reducible refine Calls.grow (aL.out _))| (with_reducible refine Calls.grow (aU.out _))))))
  refine wpQuiet_nil ?_;rintro _ ⟨wz,rfl⟩;obtain⟨w3,aM⟩:=ex wz.w
  have bN:Hid (PM w w3 gc nc (.slice none 0 0) []):=hid (by rw[<-aM];exact V.out.later wz.h);(try rw[aM]);clear aM p0 p1 p4 bd r1 r2 r3 r4 r5 aL aU V;go_upto_region 5 with fail;go_loopw [7,8] (fun s7 s8 wr=>∃(k:Nat) (L:List Gr.Str) (AL:Option Addr) (cL:Nat),k<=n.items.length/\s8=.int .i64 k/\s7=.slice AL L.length cL/\Hid (PM w wr gc nc (.slice AL L.length cL) L/\L=entT ns f n k)) (fun _ s8 _=>n.items.length-(intOf s8).toNat)
  case atStart=>exact⟨0,[],none,0,by omega,rfl,rfl,hid ⟨bN.out,(zrx _ _ _).symm⟩⟩
  case round=>
   obtain⟨k,L,AL,cL,hk,rfl,rfl,E⟩:=hrel;obtain⟨m,bq⟩:∃m,m=wr:=⟨_,rfl⟩
   subst bq;have ar:L.length=k:=by rw[E.out.2];exact zt6 _ _ _ _ hk
   have s4:m.cell? ⟨w.heap.size+1,4,none⟩=some (.slice ia n.items.length ic):=by rw[E.out.1.nbox.cell];exact l.out.2.2.2.2
   by_cases hlk:k<n.items.length
   .have bf:(k:Int)<(n.items.length:Int):=by omega
    obtain⟨y,hy⟩:=ex (n.items[k])
    obtain⟨bh,rfl,_,y0⟩:=zae (bi.out m E.out.1.below).2 hlk;rw[hy]at y0;have aY:y∈n.keys++n.items:=List.mem_append_right _ (by rw[<-hy];exact List.getElem_mem hlk);have aB:=hid (aP.out y aY);have a5:Hid (n.items.getD k 0=y):=hid (by rw[za3 hlk,hy]);have ae:=hid (zrz ns f n k hlk);have q0:∀x:WB m.heap.size m,x.w.cell? ⟨w.heap.size,0,none⟩=some (.slice (some s) ns.length c):=fun x=>by rw[(E.out.1.later x.h).gbox.cell];exact an.out.1
    have q1:∀x:WB m.heap.size m,x.w.cell? ⟨w.heap.size,1,none⟩=some (.int .i64 root):=fun x=>by rw[(E.out.1.later x.h).gbox.cell];exact an.out.2
    have q4:∀x:WB m.heap.size m,x.w.cell? ⟨w.heap.size+1,4,none⟩=some (.slice (some bh) n.items.length ic):=fun x=>by rw[(E.out.1.later x.h).nbox.cell];exact l.out.2.2.2.2
    have qy:∀x:WB m.heap.size m,x.w.cell? (bh.add k)=some (.int .i64 (y:Int)):=fun x=>(x.h.cell (World.block_lt_of_cell? m _ y0)).trans y0
    have N:Hid (∀x:WB m.heap.size m,Calls prog 49 #[.agg #[.slice (some s) ns.length c,.int .i64 root],.int .i64 y] x.w fun e w'=>e=.returned (.string ⟨(printF ns f y).toArray⟩)/\Below m.heap.size m w'):=hid (fun x=>
     (aB.out.2.2 x.w ((H.out.below (E.out.1.later x.h).below).more (E.out.1.later x.h).below.size)).mono (fun _ _ ⟨e1,e2⟩=>⟨e1,x.h.trans (e2.mono x.h.size)⟩))
    have aO:Hid ((printF ns f y).length<=b):=hid aB.out.2.1;obtain⟨ti,bb⟩:=ex (printF ns f y)
    rw[a5.out]at ae;rw[bb]at N aO ae;have bB:k<=1000:=by omega
    clear hy aY y0 bb;go_upto_region 7 with fail;clear s4;refine zab m.heap.size m (by kernel_rfl) (by kernel_rfl) (Below.refl _ _) ?_
    repeat (go_big_quiet_step (((first| (with_reducible refine Calls.grow (N.out _))))))
    refine wpQuiet_nil ?_;rintro _ ⟨bk,rfl⟩;obtain⟨z,aN⟩:=ex bk.w
    have d:Hid (PM w z gc nc (.slice AL L.length cL) L):=hid (by rw[<-aN];exact E.out.1.later bk.h);(try rw[aN]);clear aN q0 q1 q4 qy;have q0:z.cell? ⟨w.heap.size+1,0,none⟩=some (.int .i64 (r:Int)):=by rw[d.out.nbox.cell];exact l.out.1
    have bc:Hid (n.kind=10->∃(tk:Gr.Str) (adk:Addr) (yk:Nat),n.keys.getD k 0=yk/\printF ns f yk=tk/\tk.length<=b/\ka=some adk/\k<n.keys.length/\(∀x:WB z.heap.size z,x.w.cell? (adk.add k)=some (.int .i64 (yk:Int)))/\
     ∀x:WB z.heap.size z,Calls prog 49 #[.agg #[.slice (some s) ns.length c,.int .i64 root],.int .i64 yk] x.w fun e w'=>e=.returned (.string ⟨tk.toArray⟩)/\Below z.heap.size z w'):=hid (fun bL=>by
     have B:k<n.keys.length:=by rw[aX bL];exact hlk
     obtain⟨yk,aQ⟩:=ex (n.keys[k])
     obtain⟨adk,ba,_,aG⟩:=zae (bi.out z d.out.below).1 B;rw[aQ]at aG;have a7:yk∈n.keys++n.items:=List.mem_append_left _ (by rw[<-aQ];exact List.getElem_mem B);have hY:=aP.out yk a7;refine⟨_,adk,yk,by rw[za3 B,aQ],rfl,hY.2.1,ba,B,fun x=>(x.h.cell (World.block_lt_of_cell? z _ aG)).trans aG,fun x=>?_⟩;exact(hY.2.2 x.w ((H.out.below (d.out.later x.h).below).more (d.out.later x.h).below.size)).mono (fun _ _ ⟨e1,e2⟩=>⟨e1,x.h.trans (e2.mono x.h.size)⟩))
    go_upto_region 8 with fail;go_upto_if 54 with fail;go_cut [9] (fun s9 wx=>∃t:Gr.Str,s9=.string ⟨t.toArray⟩/\Hid (PM w wx gc nc (.slice AL L.length cL) L/\t=(if n.kind=10 then printF ns f (n.keys.getD k 0)else[])++ti))
    case first=>
     by_cases hk10:r=10
     .have D:((r:Int)==10)=true:=by rw[hk10];rfl
      have p:n.kind=10:=by rw[aa.out,hk10];rfl
      obtain⟨tk,adk,yk,e1,e2,htkl,rfl,B,qk,aq⟩:=bc.out p;have bw:=hid aq;have bm:Hid ((if n.kind=10 then printF ns f (n.keys.getD k 0)else[])=tk):=hid (by rw[if_pos p,e1,e2]);have hlk2I:(k:Int)<(n.keys.length:Int):=by omega
      have q0:∀x:WB z.heap.size z,x.w.cell? ⟨w.heap.size,0,none⟩=some (.slice (some s) ns.length c):=fun x=>by rw[(d.out.later x.h).gbox.cell];exact an.out.1
      have q1:∀x:WB z.heap.size z,x.w.cell? ⟨w.heap.size,1,none⟩=some (.int .i64 root):=fun x=>by rw[(d.out.later x.h).gbox.cell];exact an.out.2
      have q3:∀x:WB z.heap.size z,x.w.cell? ⟨w.heap.size+1,3,none⟩=some (.slice (some adk) n.keys.length kc):=fun x=>by rw[(d.out.later x.h).nbox.cell];exact l.out.2.2.2.1
      have rk:=zac tk ti (by have:=aO.out;omega);obtain⟨tt,aC⟩:=ex (tk++ti)
      have av:Hid (tt=(if n.kind=10 then printF ns f (n.keys.getD k 0)else[])++ti):=hid (by rw[bm.out,aC]);rw[aC]at rk;clear e1 e2 aq aC hk10 p;go_upto_region 9 with fail;refine zab z.heap.size z (by kernel_rfl) (by kernel_rfl) (Below.refl _ _) ?_
      repeat (go_big_quiet_step (((first| (with_reducible refine Calls.grow (bw.out _))))))
      refine wpQuiet_nil ?_;rintro _ ⟨bR,rfl⟩;go_wp2;go_meet;exact⟨tt,rfl,hid ⟨d.out.later bR.h,av.out⟩⟩
     .have D:((r:Int)==10)=false:=by rw[beq_eq_false_iff_ne];omega
      have av:Hid (ti=(if n.kind=10 then printF ns f (n.keys.getD k 0)else[])++ti):=hid (by rw[if_neg (by have:=aa.out;omega)];rfl);clear hk10;go_wp2;go_meet;exact⟨ti,rfl,hid ⟨d.out,av.out⟩⟩
    case rest=>
     obtain⟨t,rfl,HT⟩:=hcut;have aV:Hid (entT ns f n (k+1)=if n.kind=10/\n.ord=false then insL L t else L++[t]):=hid (by rw[ae.out,<-HT.out.2,E.out.2]);have HLL:Hid (L.length=k):=hid ar;have bG:L.length<=1000:=by omega
     have aH:Hid (w.heap.size+2<=wc.heap.size):=hid HT.out.1.hd;clear bc ae d N aO aB a5 q0 ar bB;go_wp2_with (at_builtin;go_must (refine zaa _ rfl (.tmp 64) (.tmp 66) 77 9 16 rfl strT (w.heap.size+2) (.slice AL L.length cL) L rfl (HT.out.1.own.alloc _) _ _ 1 [t] rfl (RowAt.lit1 _ _ rfl _ ?_) ?_ ?_ ?_))
     any_goals (first|rfl| (have:=aH.out;omega)| (have:=aH.out;simp;omega)| (rw[World.size_alloc];have:=aH.out;omega))
     intro v' w5 G hg bp;have a9:Hid (PM w w5 gc nc v' (L++[t])):=hid ((HT.out.1.alloc _).grown G hg);obtain⟨A5,c5,bM,_⟩:=G.form;subst bM;obtain⟨g,rfl⟩:=zt7 G (by simp);obtain⟨m5,af⟩:=ex ((L++[t]).length)
     have J:Hid (m5=L.length+1):=hid (by rw[<-af];simp);have hm51:1<=m5:=by rw[J.out];omega
     have hm5b:m5<=1001:=by rw[J.out];omega
     rw[af]at a9;(try rw[af]);clear G hg bp af;go_upto_region 12 with fail;go_loopw [10] (fun s10 wr=>∃j:Nat,j<=L.length/\s10=.int .i64 j/\Hid (PM w wr gc nc (.slice (some ⟨g,0,none⟩) m5 c5) (wand L t j)/\(¬(n.kind=10/\n.ord=false)->j=L.length)/\∀y∈L.drop j,ltS t y=true)) (fun s10 _=>(intOf s10).toNat)
     case atStart=>exact⟨L.length,Nat.le_refl _,by(have:=J.out;congr 1;omega),hid ⟨by have:=a9.out;unfold wand;rwa[List.take_length,List.drop_length],fun _=>rfl,by simp⟩⟩
     case round=>
      obtain⟨j,hj,rfl,HJ⟩:=hrel;have s0:wr.cell? ⟨w.heap.size+1,0,none⟩=some (.int .i64 (r:Int)):=by rw[HJ.out.1.nbox.cell];exact l.out.1
      have s2:wr.cell? ⟨w.heap.size+1,2,none⟩=some (.bool n.ord):=by rw[HJ.out.1.nbox.cell];exact l.out.2.2.1
      have X:Hid (m5=(wand L t j).length):=hid (by rw[zlm _ _ _ hj,J.out]);have al:Hid (((n.kind=10/\n.ord=false)->∀i,(h:i<L.length)->i+1=j->ltS t L[i]=false)->PM w wr gc nc (.slice (some ⟨g,0,none⟩) (wand L t j).length c5) (wand L t j)/\wand L t j=entT ns f n (k+1)):=hid (fun h=>by
       refine⟨by rw[<-X.out];exact HJ.out.1,?_⟩;rw[aV.out];by_cases hm:n.kind=10/\n.ord=false
       .rw[if_pos hm,zxb t L j hj HJ.out.2.2 (h hm)];rfl
       .rw[if_neg hm,HJ.out.2.1 hm];unfold wand;rw[List.take_length,List.drop_length])
      by_cases hk10:r=10
      .have D:((r:Int)==10)=true:=by rw[hk10];rfl
       have p:n.kind=10:=by rw[aa.out,hk10];rfl
       obtain⟨o,K⟩:=ex n.ord
       rw[K]at s2;cases o with
       |true=>
        have R:=hid (al.out (fun h=>by rw[K]at h;cases h.2));clear K p hk10;go_upto_region 12 with fail;go_quiet (fail);go_wp2;go_roundw
        case rel=>exact⟨k+1,wand L t j,some ⟨g,0,none⟩,c5,by omega,by go_num,by rw[<-X.out],hid ⟨R.out.1.drewN _,R.out.2⟩⟩
        case measure=>simp[intOf];omega
       |false=>
        cases j with
        |zero=>
         have R:=hid (al.out (fun _ i _ h=>by omega));clear K p hk10;go_upto_region 12 with fail;go_quiet (fail);go_wp2;go_roundw
         case rel=>exact⟨k+1,wand L t 0,some ⟨g,0,none⟩,c5,by omega,by go_num,by rw[<-X.out],hid ⟨R.out.1.drewN _,R.out.2⟩⟩
         case measure=>simp[intOf];omega
        |succ j=>
         have aw:j<L.length:=by omega
         obtain⟨cur,hB,bH,aK,ax,ab⟩:=zkc HJ.out.1.own;have br:=zlm L t (j+1) hj;have z1:wr.cell? ⟨g,j+1,none⟩=some (.string ⟨t.toArray⟩):=by
          have a:=zxc L t (j+1) hj;rw[List.getElem?_eq_getElem (by omega)]at a;injection a with a
          rw[aK (j+1) (by omega),a]
         obtain⟨u,hu⟩:=ex (L[j])
         have z0:wr.cell? ⟨g,j,none⟩=some (.string ⟨u.toArray⟩):=by
          have a:=zt5 L t j aw;rw[List.getElem?_eq_getElem (by omega),hu]at a;injection a with a
          rw[aK j (by omega),a]
         have hjb:j<=1000:=by omega
         have hjm:(j:Int)+1<(m5:Int):=by have:=J.out;omega
         have hjm0:(j:Int)<(m5:Int):=by have:=J.out;omega
         have bs:Hid (∀q,PM w (((wr.drewN q).setCell ⟨g,j,none⟩ (.string ⟨t.toArray⟩)).setCell ⟨g,j+1,none⟩ (.string ⟨u.toArray⟩)) gc nc (.slice (some ⟨g,0,none⟩) m5 c5) (wand L t j)):=hid (fun q=>by
          have hh:=HJ.out.1.drewN q;obtain⟨_,_,_,_,_,ab⟩:=zkc hh.own;have o1:=ab j t (by omega);obtain⟨_,_,_,_,_,aR⟩:=zkc o1;have o2:=aR (j+1) u (by rw[List.length_set];omega);rw[<-hu,zrv L t j aw,hu]at o2;have hsz:w.heap.size+2<=g:=bH;refine⟨(hh.below.setCell (show w.heap.size<=g by omega) _).setCell (show w.heap.size<=g by omega) _,?_,?_,o2,by simpa using hh.hd⟩
          .exact(hh.gbox.far (show w.heap.size≠g by omega) _).far (show w.heap.size≠g by omega) _
          .exact(hh.nbox.far (show w.heap.size+1≠g by omega) _).far (show w.heap.size+1≠g by omega) _)
         have bl:Hid (L[j]=u):=hid hu;obtain⟨c7,bn⟩:=ex (Op.bytesLess t u)
         have N:Hid (ltS t u=c7):=hid (by rw[<-zll,bn]);have bo:=hid ax;clear hB aK ax ab br hu;cases c7 with
         |false=>
          have R:=hid (al.out (fun _ i hi h=>by
           obtain rfl:i=j:=by omega
           rw[bl.out];exact N.out))
          clear K p hk10;go_upto_region 12 with fail;go_quiet (fail);go_wp2;go_roundw
          case rel=>exact⟨k+1,wand L t (j+1),some ⟨g,0,none⟩,c5,by omega,by go_num,by rw[<-X.out],hid ⟨R.out.1.drewN _,R.out.2⟩⟩
          case measure=>simp[intOf];omega
         |true=>
          have bx:Hid (∀y∈L.drop j,ltS t y=true):=hid (fun y hy=>by
           rw[List.drop_eq_getElem_cons aw,bl.out]at hy;rcases List.mem_cons.1 hy with rfl|hy
           .exact N.out
           .exact HJ.out.2.2 y hy)
          have bu:Hid (n.kind=10/\n.ord=false):=hid ⟨p,K⟩;clear K p hk10;go_upto_region 12 with fail;go_quiet (fail);go_upto_region 14 with fail;have ax:=bo.out;go_region
          all_goals
           go_wp2_with fail;exact⟨⟨j,by omega,rfl,hid ⟨bs.out _,fun h=>absurd bu.out h,bx.out⟩⟩,by simp[intOf]⟩
      .have D:((r:Int)==10)=false:=by rw[beq_eq_false_iff_ne];omega
       have R:=hid (al.out (fun h=>by have:=aa.out;omega));clear hk10;go_upto_region 12 with fail;go_quiet (fail);go_wp2;go_roundw
       case rel=>exact⟨k+1,wand L t j,some ⟨g,0,none⟩,c5,by omega,by go_num,by rw[<-X.out],hid ⟨R.out.1.drewN _,R.out.2⟩⟩
       case measure=>simp[intOf];omega
   .have bf:¬(k:Int)<(n.items.length:Int):=by omega
    have ah:Hid (L=entS ns f n/\L.length<=1000):=hid ⟨by rw[E.out.2,zry _ _ _ _ (by omega)],by omega⟩;have bG:L.length<=1000:=by omega
    clear ar;go_upto_region 16 with fail;go_loop [6,11] (fun s6 s11=>∃(i:Nat) (S:Gr.Str),i<=L.length/\s11=.int .i64 i/\s6=.string ⟨S.toArray⟩/\Hid (S=hd++(L.take i).flatten)) (fun _ s11=>L.length-(intOf s11).toNat)
    case atStart=>exact⟨0,hd,by omega,rfl,rfl,hid (by simp)⟩
    case round=>
     obtain⟨Q,S,hi2,rfl,rfl,HS⟩:=hrel;have bQ:Hid (S.length+2<=b+2/\∀u,u∈L->S.length<=b/\Q<Q+1):=hid ⟨by
      have a:=aI.out;rw[I.out,ag.out,<-ah.out.1]at a;have h2:=zfp L Q;rw[HS.out];simp only[List.length_append,List.length_cons]at a ⊢;omega,fun u _=>⟨by
      have a:=aI.out;rw[I.out,ag.out,<-ah.out.1]at a;have h2:=zfp L Q;rw[HS.out];simp only[List.length_append,List.length_cons]at a ⊢;omega,by omega⟩⟩
     by_cases hli:Q<L.length
     .have aZ:(Q:Int)<(L.length:Int):=by omega
      obtain⟨u,hu⟩:=ex (L[Q])
      obtain⟨adl,rfl,_,l0⟩:=zu1 (zln E.out.1.own) hli;rw[hu]at l0;have ay:Hid (S++u=hd++(L.take (Q+1)).flatten):=hid (by rw[List.take_succ_eq_append_getElem hli,hu,HS.out];simp);have bD:S.length+u.length<=b:=by
       have a:=aI.out;rw[I.out,ag.out,<-ah.out.1]at a;have h2:=zfp L (Q+1);have h3:=congrArg List.length ay.out;simp only[List.length_append,List.length_cons]at a h3;omega
      have rS:=zac S u (by omega);obtain⟨S2,C⟩:=ex (S++u)
      rw[C]at rS ay;have hib:Q<=1000:=by omega
      clear hu bD C;go_wp2;go_round
      case rel=>exact⟨Q+1,S2,by omega,by go_num,rfl,ay⟩
      case measure=>simp[intOf];omega
     .have aZ:¬(Q:Int)<(L.length:Int):=by omega
      have s2:m.cell? ⟨w.heap.size+1,2,none⟩=some (.bool n.ord):=by rw[E.out.1.nbox.cell];exact l.out.2.2.1
      have be:Hid (printF ns (f+1) i=S++(41::(if n.ord=true then[33]else[]))):=hid (by rw[I.out,ag.out,<-ah.out.1,HS.out,List.take_of_length_le (by omega)]);have hSb:S.length<=b:=by have:=bQ.out.1;omega
      have r1:=zac S [41] (by simp;omega);have r2:=zac S [41,33] (by simp;omega);obtain⟨S1,ak⟩:=ex (S++[41])
      obtain⟨S2,C⟩:=ex (S++[41,33])
      rw[ak]at r1;rw[C]at r2;have HB:=hid E.out.1.below;obtain⟨o,K⟩:=ex n.ord
      rw[K]at s2;cases o with
      |true=>
       have aF:Hid (printF ns (f+1) i=S2):=hid (by rw[be.out,K,<-C];rfl);clear K ak C;go_wp2;go_ret;exact⟨by rw[aF.out]<;>rfl,HB.out⟩
      |false=>
       have aF:Hid (printF ns (f+1) i=S1):=hid (by rw[be.out,K,<-ak];rfl);clear K ak C;go_wp2;go_ret;exact⟨by rw[aF.out]<;>rfl,HB.out⟩
end Go.Proofs.YtpjmhafmeieloabGreatDoor

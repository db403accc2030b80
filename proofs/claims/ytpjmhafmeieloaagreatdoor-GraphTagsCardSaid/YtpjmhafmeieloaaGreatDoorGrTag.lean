import Derived.Test.YtpjmhafmeieloaaGreatDoorZ25
namespace Go.Proofs.YtpjmhafmeieloaaGreatDoor
open Gr
open _root_.Go.Proofs.Tryz
open _root_.Go.Lib (hid)
set_option maxRecDepth 100000
set_option maxHeartbeats 16000000
open Go.RowKit
def zkl (s:Gr.Str) (is:List Gr.Ni) (root:Int) (w:World) (e:Ending) (w':World):Prop:=
 Below w.heap.size w w'/\(nameB s=false->e=.returned (.tuple #[gZero,.int .i64 1]))/\(nameB s=true->checkI sclX is root≠0->e=.returned (.tuple #[gZero,.int .i64 3]))/\
 (nameB s=true->checkI sclX is root=0->((depth (is.map Gr.Ni.nd) root.toNat).1=32->e=.returned (.tuple #[gZero,.int .i64 5]))/\
   ((depth (is.map Gr.Ni.nd) root.toNat).1≠32->∃A2 c2 vs2,e=.returned (.tuple #[.agg #[.slice A2 (is.length+1) c2,.int .i64 0],.int .i64 0])/\GAt w' w'.heap.size A2 vs2 (Gr.over 11 s (is.map Gr.Ni.nd) root.toNat)))
theorem zud (s:Gr.Str) (hs:s.length<=100) (A:Option Addr) (c:Nat) (root:Int) (vs:List NV) (is:List Gr.Ni) (hl:is.length<=100) (hks:∀x∈is,x.text.length<=1000/\x.keys.length<=1000/\x.items.length<=1000) (w:World) (hUT:UT w) (h:IAt w w.heap.size A vs is):
 Calls prog 6 #[.string ⟨s.toArray⟩,.agg #[.slice A is.length c,.int .i64 root]] w (zkl s is root w):=by
 obtain⟨w1,G⟩:=ex (w.alloc (.cells #[.slice A is.length c,.int .i64 root] 24))
 obtain⟨w2,q⟩:=ex (w1.alloc (.cells #[.slice none 0 0,.int .i64 0] 24))
 have l1:Below w.heap.size w w1:=by rw[<-G];exact(Below.refl _ _).alloc (Nat.le_refl _) _
 have s1:w1.heap.size=w.heap.size+1:=by rw[<-G];simp
 have b1:Blk w1 w.heap.size 24 #[.slice A is.length c,.int .i64 root]:=by rw[<-G];exact Blk.new _ _ _
 have l2:Below w.heap.size w w2:=by rw[<-q];exact l1.alloc l1.size _
 have bg:Blk w2 w.heap.size 24 #[.slice A is.length c,.int .i64 root]:=by rw[<-q];exact b1.alloc _
 have br:Blk w2 (w.heap.size+1) 24 #[.slice none 0 0,.int .i64 0]:=by rw[<-q,<-s1];exact Blk.new _ _ _
 have s2:w2.heap.size=w.heap.size+2:=by rw[<-q];simp[s1]
 have ar:=hid l2;have ac:=hid bg;have ad:=hid br;have aq:=hid s2;have HT:Hid (∀W,Below w.heap.size w W->UT W):=hid (fun W hW=>UT.stays _ _ hUT hW);have HI:Hid (∀W,Below w.heap.size w W->IAt W W.heap.size A vs is):=hid (fun W hW=>(h.below hW).more hW.size);have az:=hid (zcx s (by omega) w2);have aG:=hid (zy8 A c root vs is (fun y hy=>by have:=hks y hy;omega) (by omega) w2 (UT.stays _ _ hUT l2) ((h.below l2).more l2.size));have HZ:=hid (fun hc:checkI sclX is root=0=>Gr.zcc za5 hc);have ax:=hid hks;obtain⟨g0,g1⟩:=cells2 bg;obtain⟨d0,d1⟩:=cells2 br;have df:∀i,w2.frozen? ⟨w.heap.size+1,i,none⟩=false:=br.frozen;obtain⟨m,d⟩:=ex (nameB s)
 have u:=hid d;rw[d]at az;obtain⟨ck,ab⟩:=ex (checkI sclX is root)
 have M:=hid ab;rw[ab]at aG HZ;clear h hUT l1 b1 l2 bg br d ab hks;go_enter func6,ntmps6;go_upto_region 1 with fail;(try rw[G]);(try rw[q]);(try rw[s1]);clear G q s1 s2;go_wp2_with fail;refine az.out.mono ?_;rintro e w3 ⟨rfl,rfl⟩;cases m with
 |false=>
  go_wp2_with fail;refine bodyPost_ret (v:=.tuple #[gZero,.int .i64 1]) (by rw[results_cell_tmp rfl];go_simp;rfl) rfl ⟨?_,fun _=>rfl,fun h=>?_,fun h=>?_⟩
  .exact(ar.out.setCell (by simp) _).setCell (by simp) _
  .rw[u.out]at h;cases h
  .rw[u.out]at h;cases h
 |true=>
  go_wp2_with fail;refine(aG.out _ (Below.refl _ _)).mono ?_;rintro e w4 ⟨rfl,F⟩;have R:=ar.out.trans (F.mono (by have:=aq.out;omega));have aj:=hid R;have I:=ad.out.below F ad.out.lt;have V:=hid I;have H:=ac.out.below F ac.out.lt;have aU:Hid (w.heap.size+2<=w4.heap.size):=hid (by have:=aq.out;have:=F.size;omega);clear d0 d1 df g0 g1;obtain⟨g0,g1⟩:=cells2 H;obtain⟨d0,d1⟩:=cells2 I;have df:∀i,w4.frozen? ⟨w.heap.size+1,i,none⟩=false:=I.frozen;have aF:=hid H;clear F R I H ad ac ar aq;by_cases h0:ck=0
  rotate_left
  .have aQ:((ck:Int)==0)=false:=by rw[beq_eq_false_iff_ne];omega
   go_wp2_with fail;refine bodyPost_ret (v:=.tuple #[gZero,.int .i64 3]) (by rw[results_cell_tmp rfl];go_simp;rfl) rfl ⟨?_,fun h=>?_,fun _ _=>rfl,fun _ h=>?_⟩
   .exact(aj.out.setCell (by simp) _).setCell (by simp) _
   .rw[u.out]at h;cases h
   .rw[M.out]at h;exact absurd h h0
  .subst h0;obtain⟨r,rfl,ao,Z,aW,aY,aT⟩:=HZ.out rfl;obtain⟨dp,am⟩:=ex ((depth (is.map Gr.Ni.nd) r).1)
   have aE:=hid am;have aK:=zkk (kind:=11) (text:=s) (r:=r) (by decide) (by omega) (by simp[formB,u.out]) hl ax.out M.out am;have aX:=hid aK.2.1;obtain⟨m,d⟩:=ex w4.heap.size
   obtain⟨w5,an⟩:=ex (w4.alloc (.cells #[.int .i64 11,.string ⟨s.toArray⟩,.bool false,.slice none 0 0,.slice none 0 0] 36))
   have l5:Below m w4 w5:=by rw[<-an,<-d];exact(Below.refl _ _).alloc (Nat.le_refl _) _
   have b5:Blk w5 m 36 #[.int .i64 11,.string ⟨s.toArray⟩,.bool false,.slice none 0 0,.slice none 0 0]:=by rw[<-an,<-d];exact Blk.new _ _ _
   have aa:w.heap.size+2<=m:=by rw[<-d];exact aU.out
   have av:=HI.out w4 aj.out;have z:=av.toG (za8 Z).1;have ay:Calls prog 15 #[.slice (some ⟨m,0,none⟩) 1 1,.agg #[.slice A (is.map Gr.Ni.nd).length c,.int .i64 r]] w5 (zk6 m ((r:Int)+1) (⟨11,s,false,[],[]⟩::(is.map Gr.Ni.nd).map (shN 1)) w5):=zef m A c r vs (is.map Gr.Ni.nd) _ _ _ (by rw[List.length_map];omega) (by rw[List.length_map];simp;omega) (fun x hx=>by obtain⟨y,hy,rfl⟩:=List.mem_map.1 hx;have:=ax.out y hy;simp[Gr.Ni.nd];omega) ao.refs ao.root w5 (by rw[<-d];exact z.below (by rw[d];exact l5)) (Tab.one (B:=m) b5 (Nat.le_refl _)) (by have:=b5.lt;omega);have aN:=hid ay;have aA:=hid l5;have HG4:Hid (GAt w4 m A vs (is.map Gr.Ni.nd)):=hid (by rw[<-d];exact z);have T:=hid aa;have aC:=hid d;have HBR5:=hid (V.out.below l5 (by omega));have aw:Hid ((is.map Gr.Ni.nd).length=is.length):=hid (by simp);rw[aw.out]at aN;obtain⟨g0,g1⟩:=cells2 (aF.out.below l5 (by omega));clear l5 b5 aa ay z av ao Z aW aY aT am aK;go_upto_region 5 with fail;go_wp2_with fail;clear an d g0 g1;refine aN.out.mono ?_;rintro e w7 ⟨v7,aJ,rfl,P,ag,_⟩;have f:=P.rows.len;rw[List.length_cons,List.length_map,aw.out]at f;obtain⟨x0,vl,rfl⟩:∃x0 vl,aJ=x0::vl:=by cases aJ with
    |nil=>cases f
    |cons a b=>exact⟨a,b,rfl⟩
   obtain⟨g,O,rest,aM,Y,C,H,_⟩:=P.row.row (by simp);rw[f]at aM Y;subst aM;have hnn0I:(0:Int)<((is.length+1:Nat):Int):=by omega
   obtain⟨k,hk⟩:=ex (r+1)
   have hkI:(r:Int)+1=(k:Int):=by omega
   obtain⟨g7,j⟩:=ex w7.heap.size
   obtain⟨w8,ae⟩:=ex (w7.alloc (.cells #[.int .i64 (k:Int)] 3))
   have l8:Below g7 w7 w8:=by rw[<-ae,<-j];exact(Below.refl _ _).alloc (Nat.le_refl _) _
   have b8:Blk w8 g7 3 #[.int .i64 (k:Int)]:=by rw[<-ae,<-j];exact Blk.new _ _ _
   have aL:m<=g7:=by rw[<-j];have:=ag.size;have:=aA.out.size;have:=aC.out;omega
   obtain⟨i,hi,J,aP,ah⟩:=P.push (zb6 (n:=1) (l:=[k]) b8 aL rfl (by decide)) (grown_below (by rw[j];exact l8)) (.inr (by rw[j];rfl));have ak:=C.below l8 (by have:=C.lt;omega);have aZ:w8.cell? ⟨g,4,none⟩=some (.slice x0.i.a x0.i.n x0.i.c):=ak.cell 4;have aV:∀i,w8.frozen? ⟨g,i,none⟩=false:=ak.frozen;obtain⟨w9,al⟩:=ex (w8.setCell ⟨g,4,none⟩ (.slice (some ⟨g7,0,none⟩) 1 1))
   rw[al]at J ah;have X:=ah (by omega);have D:Below m w4 w9:=(aA.out.trans ag).trans X;have E:=aj.out.trans (D.mono (by have:=T.out;omega));have aB:=hid E;have U:=hid (V.out.below D (by have:=T.out;omega));have ai:Tab m w9 (.slice (some ⟨g,0,none⟩) (is.length+1) O) ({x0 with i:=i}::vl) (Gr.over 11 s (is.map Gr.Ni.nd) r):=by rw[<-hk]at J;exact J
   obtain⟨A9,c9,ap,K⟩:=ai.at_;injection ap with e1 e2 e3
   subst e1 e3;have N:=zfi (some ⟨g,0,none⟩) (is.length+1) O 0 (if dp=32 then 5 else 0) w9 (aX.out _ _ _ w9 (HT.out w9 E) K);obtain⟨cz,au⟩:=ex (if dp=32 then 5 else 0:Nat)
   rw[au]at N;unfold gZero at N;have aD:=hid au;have aS:=hid N;have aR:=hid ai;have HKK:=hid hk;clear au e2 P ag f Y C H l8 b8 aL hi J aP ah ak X D E ai N K hk;go_wp2_with fail;(try rw[j]);(try rw[al]);clear al ae j aZ aV;refine aS.out.mono ?_;rintro e af ⟨rfl,o⟩;have L:=U.out.below o U.out.lt;have S:=hid (aB.out.trans (o.mono aB.out.size));have Q:=hid (aR.out.later o);clear d0 d1 df;obtain⟨d0,d1⟩:=cells2 L;have df:∀i,af.frozen? ⟨w.heap.size+1,i,none⟩=false:=L.frozen;have aH:=hid L;clear o L;by_cases h0:cz=0
   .subst h0;go_wp2_with fail;have aI:∀t,t≠24->KeptT t af ((af.setCell ⟨w.heap.size+1,0,none⟩ (.slice (some ⟨g,0,none⟩) (is.length+1) O)).setCell ⟨w.heap.size+1,1,none⟩ (.int .i64 0)):=fun t ht=>(KeptT.setCell (p:=⟨w.heap.size+1,0,none⟩) aH.out ht _).trans (KeptT.setCell (p:=⟨w.heap.size+1,1,none⟩) (aH.out.set_ 0 _) ht _)
    have aO:Tab m _ _ _ _:=⟨Q.out.row.kept (aI _ (by decide)),Q.out.rows.kept (aI _ (by decide))⟩
    obtain⟨A9,c9,ap,K⟩:=aO.at_;injection ap with f1 f2 f3
    subst f1 f3;have hd:dp≠32:=fun h=>by have:=aD.out;rw[if_pos h]at this;cases this
    refine bodyPost_ret (v:=.tuple #[.agg #[.slice (some ⟨g,0,none⟩) (is.length+1) O,.int .i64 0],.int .i64 0]) (by rw[results_cell_tmp rfl];go_simp) rfl ⟨?_,fun h=>?_,fun _ h=>?_,fun _ _=>⟨fun h=>?_,fun _=>⟨_,_,{x0 with i:=i}::vl,rfl,?_⟩⟩⟩
    .exact(S.out.setCell (by simp) _).setCell (by simp) _
    .rw[u.out]at h;cases h
    .exact absurd M.out h
    .rw[Int.toNat_natCast,aE.out]at h;exact absurd h hd
    .rw[Int.toNat_natCast];exact K
   .have aQ:((cz:Int)==0)=false:=by rw[beq_eq_false_iff_ne];omega
    go_wp2_with fail;have hd:dp=32/\cz=5:=by have:=aD.out;split at this<;>omega
    refine bodyPost_ret (v:=.tuple #[gZero,.int .i64 5]) (by rw[results_cell_tmp rfl];go_simp;rfl) rfl ⟨?_,fun h=>?_,fun _ h=>?_,fun _ _=>⟨fun _=>rfl,fun h=>?_⟩⟩
    .exact(S.out.setCell (by simp) _).setCell (by simp) _
    .rw[u.out]at h;cases h
    .exact absurd M.out h
    .rw[Int.toNat_natCast,aE.out]at h;exact absurd hd.1 h
end Go.Proofs.YtpjmhafmeieloaaGreatDoor

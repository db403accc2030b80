import Derived.Test.YtoigpackhninoaaGreatDoorZ11
namespace Go.Proofs.YtoigpackhninoaaGreatDoor
open Gr
open _root_.Go.Proofs.Tryz
open _root_.Go.Lib (hid)
set_option maxRecDepth 100000
set_option maxHeartbeats 16000000
namespace Gr
def shN (d:Nat) (x:Nd):Nd:=⟨x.kind,x.text,x.ord,x.keys.map (· +d),x.items.map (· +d)⟩
end Gr
open Go.RowKit
theorem grown_below {w w1:World} {r:Option Nat} (h:Below w.heap.size w w1):w.grownBy w1 r:=⟨h.os,h.tape,h.output,h.size,fun k hk _=>h.block k hk⟩
theorem zde {w:World} {B g n:Nat} {l:List Nat} (h:Blk w g 3 (icells l)) (hB:B<=g) (hn:l.length=n) (hm:n<=maxLen):OwnRow intL w B 3 (.slice (some ⟨g,0,none⟩) n n) l:=by
 subst hn;refine⟨intL.all_len l,.inr ⟨g,l.length,icells l,rfl,hB,h,Nat.le_refl _,hm,by simp[icells,intL],?_⟩⟩;rw[<-zje,List.take_of_length_le (by rw[intL.all_len];exact Nat.le_refl _)]
structure ShBox (w wx:World) (nb:Nat) (n:Gr.Nd) (d g1 g2:Nat):Prop where
 box:Blk wx nb 35 #[.int .i64 n.kind,.string ⟨n.text.toArray⟩,.bool n.ord,.slice (some ⟨g1,0,none⟩) n.keys.length n.keys.length,.slice (some ⟨g2,0,none⟩) n.items.length n.items.length]
 b1:Blk wx g1 3 (icells (n.keys.map (· +d)))
 b2:Blk wx g2 3 (icells (n.items.map (· +d)))
 lo1:w.heap.size<=g1
 lo2:w.heap.size<=g2
 ne_:g1≠g2
 below:Below w.heap.size w wx
def zpv (B:Nat) (r:Int) (ms:List Gr.Nd) (w:World) (e:Ending) (w':World):Prop:=∃v' vs',e=.returned (.tuple #[v',.int .i64 r])/\Tab B w' v' vs' ms/\Below B w w'
theorem zhd (B:Nat) (A:Option Addr) (c root:Nat) (us:List NV) (gs:List Gr.Nd) (v:Value) (vs:List NV) (ns:List Gr.Nd) (hgl:gs.length<=1073741823) (hnl:ns.length+gs.length<=1073741823) (hks:NH gs) (hrb:Refs gs) (hroot:root<gs.length) (w:World) (h:GAt w B A us gs) (hv:Tab B w v vs ns) (hB:B<=w.heap.size):
 Calls prog 49 #[v,.agg #[.slice A gs.length c,.int .i64 root]] w (zpv B ((root:Int)+(ns.length:Int)) (ns++gs.map (shN ns.length)) w):=by
 obtain⟨A0,c0,rfl,hg0⟩:=hv.at_;obtain⟨d,hd⟩:=ex ns.length
 have HD:=hid hd;obtain⟨w1,hw1⟩:=ex (w.alloc (.cells #[.slice A gs.length c,.int .i64 root] 24))
 have l1:Below w.heap.size w w1:=by rw[<-hw1];exact(Below.refl _ _).alloc (Nat.le_refl _) _
 have b1:Blk w1 w.heap.size 24 #[.slice A gs.length c,.int .i64 root]:=by rw[<-hw1];exact Blk.new _ _ _
 obtain⟨gb,hgb⟩:=ex w.heap.size
 have HB0:Hid (B<=w1.heap.size):=hid (Nat.le_trans hB l1.size);have HL1:Hid (Below B w w1):=hid (l1.mono hB);have HV1:=hid (hv.later l1);have HG1:=hid (h.below (l1.mono hB));have hdl:d+gs.length<=1073741823:=by omega
 rw[hgb]at b1;rw[hd]at HV1;have HB1:=hid b1;have g0:w1.cell? ⟨gb,0,none⟩=some (.slice A gs.length c):=b1.cell 0;clear hv hg0 l1 b1 h hB;go_enter func49,ntmps49;go_upto_region 1 with fail;(try rw[hw1]);(try rw[hgb]);(try rw[hd]);clear hw1 hgb hd;go_upto_region 3 with fail;clear g0;go_loopw [0,14] (fun s0 s14 wr=>∃(j:Nat) (A1:Option Addr) (c1:Nat) (vs1:List NV),j<=gs.length/\s14=.int .i64 j/\s0=.slice A1 (d+j) c1/\Hid (Tab B wr (.slice A1 (d+j) c1) vs1 (ns++(gs.take j).map (shN d))/\Below B w1 wr/\KeptT 24 w1 wr/\w1.heap.size<=wr.heap.size)) (fun _ s14 _=>gs.length-(intOf s14).toNat)
 case atStart=>exact⟨0,A0,c0,vs,by omega,rfl,rfl,hid ⟨by simpa using HV1.out,Below.refl _ _,KeptT.refl _ _,Nat.le_refl _⟩⟩
 case round=>
  obtain⟨j,A1,c1,vs1,hj,rfl,rfl,HW⟩:=hrel;obtain⟨wq,hwq⟩:∃wq,wq=wr:=⟨_,rfl⟩
  subst hwq;by_cases hlt:j<gs.length
  ·have hltI:(j:Int)<(gs.length:Int):=by omega
   obtain⟨ad,ks,is,rfl,hN⟩:=(HG1.out.below HW.out.2.1).node hlt;obtain⟨ka,kn,kc⟩:=ks;obtain⟨ia,inn,ic⟩:=is;have hnm:gs[j]∈gs:=List.getElem_mem hlt;obtain⟨hkl,hil,htl⟩:=hks _ hnm;have hrn:=hrb _ hnm;obtain⟨n,hn⟩:=ex (gs[j])
   have HTJ:Hid ((gs.take (j+1)).map (shN d)=(gs.take j).map (shN d)++[shN d n]):=hid (by rw[List.take_succ_eq_append_getElem hlt,List.map_append,hn];rfl);rw[hn]at hN hkl hil htl hrn;obtain rfl:kn=n.keys.length:=hN.kn;obtain rfl:inn=n.items.length:=hN.inn;have x0:=hN.c0;have x1:=hN.c1;have x2:=hN.c2;have x3:=hN.c3;have x4:=hN.c4;have HKI:Hid (RowAt intL wq B ka n.keys/\RowAt intL wq B ia n.items):=hid ⟨hN.keys,hN.items⟩;have HBQ:Hid (B<=wq.heap.size):=hid (Nat.le_trans HB0.out HW.out.2.2.2);have HXB:Hid ((∀x∈n.keys,x<=1152921504606846976)/\(∀x∈n.items,x<=1152921504606846976)):=hid ⟨fun x hx=>by have:=hrn x (List.mem_append_left _ hx);omega,fun x hx=>by have:=hrn x (List.mem_append_right _ hx);omega⟩;clear hN hnm hn hrn;go_upto_region 5 with fail;obtain⟨w5,hw5⟩:=ex (wq.alloc (.cells #[.int .i64 n.kind,.string ⟨n.text.toArray⟩,.bool n.ord,.slice ka n.keys.length kc,.slice ia n.items.length ic] 35))
   obtain⟨nb,hnb⟩:=ex wq.heap.size
   have b5:Blk w5 nb 35 #[.int .i64 n.kind,.string ⟨n.text.toArray⟩,.bool n.ord,.slice ka n.keys.length kc,.slice ia n.items.length ic]:=by rw[<-hw5,<-hnb];exact Blk.new _ _ _
   have l5:Below nb wq w5:=by rw[<-hw5,<-hnb];exact(Below.refl _ _).alloc (Nat.le_refl _) _
   have hs5:w5.heap.size=nb+1:=by rw[<-hw5,<-hnb];simp
   rw[hw5];(try rw[hnb]);have HL5:=hid l5;have HB5:=hid b5;have HS5:Hid (w5.heap.size=nb+1/\wq.heap.size=nb):=hid ⟨hs5,hnb⟩;have y3:w5.cell? ⟨nb,3,none⟩=some (.slice ka n.keys.length kc):=b5.cell 3;have y4:w5.cell? ⟨nb,4,none⟩=some (.slice ia n.items.length ic):=b5.cell 4;have yf:∀i,w5.frozen? ⟨nb,i,none⟩=false:=b5.frozen;have HY:Hid (∀W,Below w5.heap.size w5 W->W.cell? ⟨nb,3,none⟩=some (.slice ka n.keys.length kc)/\W.cell? ⟨nb,4,none⟩=some (.slice ia n.items.length ic)/\∀i,W.frozen? ⟨nb,i,none⟩=false):=hid (fun W hW=>⟨(b5.below hW b5.lt).cell 3,(b5.below hW b5.lt).cell 4,(b5.below hW b5.lt).frozen⟩);clear hw5 hnb b5 l5 hs5 x0 x1 x2 x3 x4;have HSK:Hid (∀W,Below w5.heap.size w5 W->Calls prog 83 #[.slice ka n.keys.length kc,.int .i64 d] W fun e w'=>Below w5.heap.size w5 w'/\Below W.heap.size W w'/\∃g,g=W.heap.size/\e=.returned (.slice (some ⟨g,0,none⟩) n.keys.length n.keys.length)/\Blk w' g 3 (icells (n.keys.map (· +d)))):=hid (fun W hW=>by
    have hb:Below B wq W:=(HL5.out.mono (by have:=HS5.out;have:=HBQ.out;omega)).trans (hW.mono (by have:=HS5.out;have:=HBQ.out;omega));refine(zen ka kc d n.keys hkl HXB.out.1 (by omega) W B (by have:=hb.size;have:=HBQ.out;omega) (HKI.out.1.below hb)).mono ?_;rintro e w' ⟨rfl,h1,h2⟩;exact⟨hW.trans (h1.mono hW.size),h1,_,rfl,rfl,h2⟩)
   have HSI:Hid (∀W,Below w5.heap.size w5 W->Calls prog 83 #[.slice ia n.items.length ic,.int .i64 d] W fun e w'=>Below w5.heap.size w5 w'/\Below W.heap.size W w'/\∃g,g=W.heap.size/\e=.returned (.slice (some ⟨g,0,none⟩) n.items.length n.items.length)/\Blk w' g 3 (icells (n.items.map (· +d)))):=hid (fun W hW=>by
    have hb:Below B wq W:=(HL5.out.mono (by have:=HS5.out;have:=HBQ.out;omega)).trans (hW.mono (by have:=HS5.out;have:=HBQ.out;omega));refine(zen ia ic d n.items hil HXB.out.2 (by omega) W B (by have:=hb.size;have:=HBQ.out;omega) (HKI.out.2.below hb)).mono ?_;rintro e w' ⟨rfl,h1,h2⟩;exact⟨hW.trans (h1.mono hW.size),h1,_,rfl,rfl,h2⟩)
   go_cut [8] (fun s8 wx=>s8=.pointer (some ⟨nb,0,none⟩)/\∃g1 g2 wy,wy=wx/\Hid (ShBox wq wy nb n d g1 g2))
   case first=>
    go_region_with ((first
     | (go_at_call 83;(with_reducible refine(HSK.out _ ?_).mono ?_);(first|assumption|exact Below.refl _ _|exact(Below.refl _ _).drew|exact Below.drew (by assumption));rintro e1 wc1 ⟨hb1,hc1,g1,hg1,rfl,hbk1⟩;obtain⟨q13,q14,q1f⟩:=HY.out wc1 hb1;have HG1:=hid hg1;clear hg1)
     | (go_at_call 83;(with_reducible refine(HSI.out _ ?_).mono ?_);(first|assumption|exact Below.refl _ _|exact(Below.refl _ _).drew|exact Below.drew (by assumption));rintro e2 wc2 ⟨hb2,hc2,g2,hg2,rfl,hbk2⟩;obtain⟨q23,q24,q2f⟩:=HY.out wc2 hb2;have HG2:=hid hg2;clear hg2)))
    all_goals
     go_wp2;go_meet;have e1:g1=nb+1:=by have:=HG1.out;have h2:=HS5.out;rw[show w5.drew.heap.size=w5.heap.size from rfl]at this;omega
     have e2:g1<g2:=by have:=HG2.out;have:=hbk1.lt;omega
     refine⟨rfl,g1,g2,_,rfl,hid ⟨((HB5.out.below hb2 HB5.out.lt).set_ 3 _).set_ 4 _,((hbk1.below hc2 hbk1.lt).far (by simp;omega) _).far (by simp;omega) _,(hbk2.far (by simp;omega) _).far (by simp;omega) _,by have:=HS5.out;omega,by have:=HS5.out;omega,by omega,?_⟩⟩;have hw:wq.heap.size=nb:=HS5.out.2;rw[hw];exact((HL5.out.trans (hb2.mono (by have:=HS5.out;omega))).setCell (by simp) _).setCell (by simp) _
   case rest=>
    obtain⟨rfl,g1,g2,w6,rfl,HX⟩:=hcut;obtain⟨z0,z1,z2,z3,z4⟩:=cells5 HX.out.box;have hb6:Below wq.heap.size wq w6:=HX.out.below;have HT6:=hid (HW.out.1.later hb6);have hs6:wq.heap.size<w6.heap.size:=by have:=HX.out.b2.lt;have:=HX.out.lo2;omega
    obtain⟨x,hxv⟩:∃x:NV,x=⟨n.kind,n.text,n.ord,⟨some ⟨g1,0,none⟩,n.keys.length,n.keys.length⟩,⟨some ⟨g2,0,none⟩,n.items.length,n.items.length⟩⟩:=⟨_,rfl⟩
    have hrow6:=HT6.out.row;have hl6:vs1.length=d+j:=by
     have:=HT6.out.rows.len;rw[this,List.length_append,List.length_map,List.length_take,HD.out];omega
    have HROW:Hid (OwnRow nodeL w6 B 35 (.slice A1 (d+j) c1) vs1):=hid hrow6;have HL6:=hid hl6;have HBQ6:Hid (B<=w6.heap.size):=hid (by have:=HBQ.out;omega);have HXV:=hid hxv;have HB6:=hid hb6;have HS6:=hid hs6;clear hrow6 hl6 hxv hb6 hs6 y3 y4 yf;go_wp2_with (at_builtin;go_must (refine zac _ rfl (.tmp 28) (.tmp 30) 22 35 80 rfl nodeT B (.slice A1 (d+j) c1) vs1 rfl (HROW.out.alloc _) _ _ 1 [x] rfl (RowAt.lit1 _ _ (by rw[HXV.out];rfl) _ ?_) ?_ ?_ ?_))
    any_goals (first|rfl| (have:=HL6.out;have:=HBQ6.out;simp;omega))
    intro v' w7 hown hg hat;obtain⟨A2,c2,hv2,_⟩:=hown.form;have hl7:(vs1++[x]).length=d+(j+1):=by rw[List.length_append,HL6.out];rfl
    rw[hl7]at hv2;subst hv2;have hk3:KeptT 3 w6 w7:=(KeptT.alloc _ _ _).trans (KeptT.grown hg (HROW.out.alloc _) (by decide));have hkG:KeptT 24 w6 w7:=(KeptT.alloc _ _ _).trans (KeptT.grown hg (HROW.out.alloc _) (by decide));have hb7:Below B w6 w7:=((Below.refl B w6).alloc HBQ6.out _).trans ((HROW.out.alloc _).grown_below hg (by rw[World.size_alloc];have:=HBQ6.out;omega));have hlow:wq.heap.size<=g1/\wq.heap.size<=g2:=⟨HX.out.lo1,HX.out.lo2⟩
    have hTab:Tab B w7 (.slice A2 (d+(j+1)) c2) (vs1++[x]) (ns++(gs.take (j+1)).map (shN d)):=by
     rw[HTJ.out,<-List.append_assoc];refine⟨hown,(HT6.out.rows.kept hk3).snoc x (shN d n) (by rw[HXV.out];exact⟨rfl,rfl,rfl⟩) ?_ ?_ ?_ ?_⟩
     ·rw[HXV.out];exact zde (hk3 _ _ HX.out.b1) (by have:=HBQ.out;omega) (by simp[shN]) (by simp only[maxLen];omega)
     ·rw[HXV.out];exact zde (hk3 _ _ HX.out.b2) (by have:=HBQ.out;omega) (by simp[shN]) (by simp only[maxLen];omega)
     ·intro g e1 e2;rw[HXV.out]at e1 e2;simp[SV.v,Value.ownBlock]at e1 e2;have:=HX.out.ne_;omega
     ·intro j' b' g e1;have:=((HW.out.1.rows.own j' b').lt g e1).2;rw[HXV.out];constructor<;>(intro e2;simp[SV.v,Value.ownBlock]at e2;omega)
    have HNX:Hid (Tab B w7 (.slice A2 (d+(j+1)) c2) (vs1++[x]) (ns++(gs.take (j+1)).map (shN d))/\Below B w1 w7/\KeptT 24 w1 w7/\w1.heap.size<=w7.heap.size):=hid ⟨hTab,(HW.out.2.1.trans (HB6.out.mono HBQ.out)).trans hb7,(HW.out.2.2.1.trans (KeptT.later HB6.out)).trans hkG,by have:=HW.out.2.2.2;have:=HS6.out;have:=hb7.size;omega⟩;clear hown hg hat hl7 hk3 hkG hb7 hTab hlow z0 z1 z2 z3 z4;go_wp2;go_roundw
    case rel=>exact⟨j+1,A2,c2,vs1++[x],by omega,by go_num,rfl,HNX⟩
    case measure=>simp[intOf];omega
  ·have hltI:¬(j:Int)<(gs.length:Int):=by omega
   have hje:j=gs.length:=by omega
   have HRES:Hid (Tab B wq (.slice A1 (d+j) c1) vs1 (ns++gs.map (shN d))/\Below B w wq):=hid ⟨by
    have:=HW.out.1;rwa[hje,List.take_length,<-hje]at this,HL1.out.trans HW.out.2.1⟩
   clear hje;have g1:wq.cell? ⟨gb,1,none⟩=some (.int .i64 root):=(HW.out.2.2.1 _ _ HB1.out).cell 1;have hdd:d<=1073741823:=by omega
   have hrr:root<=1073741823:=by omega
   go_upto_region 8 with fail;go_quiet (fail);go_wp2;go_ret2;rw[HD.out];exact⟨_,vs1,rfl,HRES.out.1.later (below_drewN (Below.refl _ _) _),below_drewN HRES.out.2 _⟩
end Go.Proofs.YtoigpackhninoaaGreatDoor

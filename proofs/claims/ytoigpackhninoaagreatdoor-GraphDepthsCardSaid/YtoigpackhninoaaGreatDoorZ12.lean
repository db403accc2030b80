import Derived.Test.YtoigpackhninoaaGreatDoorZ11
import Derived.Lib.LaidU8T
import Derived.PinnedBridge
import Derived.Lay
import Derived.Deep.DeepWitnessRowRef
namespace Go.Proofs.YtoigpackhninoaaGreatDoor
open Gr
open _root_.Go.Proofs.Tryz
open _root_.Go.Lib (hid)
set_option maxRecDepth 100000
set_option maxHeartbeats 16000000
namespace Gr
def shN (d:Nat) (x:Nd):Nd:=⟨x.kind,x.text,x.ord,x.keys.map (· +d),x.items.map (· +d)⟩
end Gr
open Go.RowKit
theorem grown_below {w w1:World} {r:Option Nat} (h:Below w.heap.size w w1):w.grownBy w1 r:=⟨h.os,h.tape,h.output,h.size,fun k hk _=>h.block k hk⟩
theorem zd8 {w:World} {B g n:Nat} {l:List Nat} (h:Blk w g 3 (icells l)) (hB:B<=g) (hn:l.length=n) (hm:n<=maxLen):OwnRow intL w B 3 (.slice (some ⟨g,0,none⟩) n n) l:=by
 subst hn;refine⟨intL.all_len l,.inr ⟨g,l.length,icells l,rfl,hB,h,Nat.le_refl _,hm,by simp[icells,intL],?_⟩⟩;rw[<-zlu,List.take_of_length_le (by rw[intL.all_len];exact Nat.le_refl _)]
structure ShBox (w wx:World) (nb:Nat) (n:Gr.Nd) (d g1 g2:Nat):Prop where
 box:Blk wx nb 35 #[.int .i64 n.kind,.string ⟨n.text.toArray⟩,.bool n.ord,.slice (some ⟨g1,0,none⟩) n.keys.length n.keys.length,.slice (some ⟨g2,0,none⟩) n.items.length n.items.length]
 b1:Blk wx g1 3 (icells (n.keys.map (· +d)))
 b2:Blk wx g2 3 (icells (n.items.map (· +d)))
 lo1:w.heap.size<=g1
 lo2:w.heap.size<=g2
 ne_:g1≠g2
 below:Below w.heap.size w wx
def zt2 (B:Nat) (r:Int) (ms:List Gr.Nd) (w:World) (e:Ending) (w':World):Prop:=∃v' vs',e=.returned (.tuple #[v',.int .i64 r])/\Tab B w' v' vs' ms/\Below B w w'
theorem zjb (B:Nat) (A:Option Addr) (c root:Nat) (us:List NV) (gs:List Gr.Nd) (v:Value) (vs:List NV) (ns:List Gr.Nd) (hgl:gs.length<=1073741823) (hnl:ns.length+gs.length<=1073741823) (hks:NH gs) (hrb:Refs gs) (hroot:root<gs.length) (w:World) (h:GAt w B A us gs) (hv:Tab B w v vs ns) (hB:B<=w.heap.size):
 Calls prog 49 #[v,.agg #[.slice A gs.length c,.int .i64 root]] w (zt2 B ((root:Int)+(ns.length:Int)) (ns++gs.map (shN ns.length)) w):=by
 obtain⟨A0,c0,rfl,hg0⟩:=hv.at_;obtain⟨d,hd⟩:=ex ns.length
 have HD:=hid hd;obtain⟨w1,hw1⟩:=ex (w.alloc (.cells #[.slice A gs.length c,.int .i64 root] 24))
 have l1:Below w.heap.size w w1:=by rw[<-hw1];exact(Below.refl _ _).alloc (Nat.le_refl _) _
 have b1:Blk w1 w.heap.size 24 #[.slice A gs.length c,.int .i64 root]:=by rw[<-hw1];exact Blk.new _ _ _
 obtain⟨gb,hgb⟩:=ex w.heap.size
 have HB0:Hid (B<=w1.heap.size):=hid (Nat.le_trans hB l1.size);have HL1:Hid (Below B w w1):=hid (l1.mono hB);have HV1:=hid (hv.later l1);have HG1:=hid (h.below (l1.mono hB));have hdl:d+gs.length<=1073741823:=by omega
 rw[hgb]at b1;rw[hd]at HV1;have HB1:=hid b1;have g0:w1.cell? ⟨gb,0,none⟩=some (.slice A gs.length c):=b1.cell 0;clear hv hg0 l1 b1 h hB;go_enter func49,ntmps49;go_upto_region 1 with fail;(try rw[hw1]);(try rw[hgb]);(try rw[hd]);clear hw1 hgb hd;go_upto_region 3 with fail;clear g0;go_loopw [0,14] (fun s0 s14 wr=>∃(j:Nat) (A1:Option Addr) (c1:Nat) (vs1:List NV),j<=gs.length/\s14=.int .i64 j/\s0=.slice A1 (d+j) c1/\Hid (Tab B wr (.slice A1 (d+j) c1) vs1 (ns++(gs.take j).map (shN d))/\Below B w1 wr/\KeptT 24 w1 wr/\w1.heap.size<=wr.heap.size)) (fun _ s14 _=>gs.length-(intOf s14).toNat)
 case atStart=>exact⟨0,A0,c0,vs,by omega,rfl,rfl,hid ⟨by simpa using HV1.out,Below.refl _ _,KeptT.refl _ _,Nat.le_refl _⟩⟩
 case round=>
  obtain⟨j,A1,c1,vs1,hj,rfl,rfl,HW⟩:=hrel;obtain⟨wq,hwq⟩:∃wq,wq=wr:=⟨_,rfl⟩
  subst hwq;by_cases hlt:j<gs.length
  ·have hltI:(j:Int)<(gs.length:Int):=by omega
   obtain⟨ad,ks,is,rfl,hN⟩:=(HG1.out.below HW.out.2.1).node hlt;obtain⟨ka,kn,kc⟩:=ks;obtain⟨ia,inn,ic⟩:=is;have hnm:gs[j]∈gs:=List.getElem_mem hlt;obtain⟨hkl,hil,htl⟩:=hks _ hnm;have hrn:=hrb _ hnm;obtain⟨n,hn⟩:=ex (gs[j])
   have HTJ:Hid ((gs.take (j+1)).map (shN d)=(gs.take j).map (shN d)++[shN d n]):=hid (by rw[List.take_succ_eq_append_getElem hlt,List.map_append,hn];rfl);rw[hn]at hN hkl hil htl hrn;obtain rfl:kn=n.keys.length:=hN.kn;obtain rfl:inn=n.items.length:=hN.inn;have x0:=hN.c0;have x1:=hN.c1;have x2:=hN.c2;have x3:=hN.c3;have x4:=hN.c4;have HKI:Hid (RowAt intL wq B ka n.keys/\RowAt intL wq B ia n.items):=hid ⟨hN.keys,hN.items⟩;have HBQ:Hid (B<=wq.heap.size):=hid (Nat.le_trans HB0.out HW.out.2.2.2);have HXB:Hid ((∀x∈n.keys,x<=1152921504606846976)/\(∀x∈n.items,x<=1152921504606846976)):=hid ⟨fun x hx=>by have:=hrn x (List.mem_append_left _ hx);omega,fun x hx=>by have:=hrn x (List.mem_append_right _ hx);omega⟩;clear hN hnm hn hrn;go_upto_region 5 with fail;obtain⟨w5,hw5⟩:=ex (wq.alloc (.cells #[.int .i64 n.kind,.string ⟨n.text.toArray⟩,.bool n.ord,.slice ka n.keys.length kc,.slice ia n.items.length ic] 35))
   obtain⟨nb,hnb⟩:=ex wq.heap.size
   have b5:Blk w5 nb 35 #[.int .i64 n.kind,.string ⟨n.text.toArray⟩,.bool n.ord,.slice ka n.keys.length kc,.slice ia n.items.length ic]:=by rw[<-hw5,<-hnb];exact Blk.new _ _ _
   have l5:Below nb wq w5:=by rw[<-hw5,<-hnb];exact(Below.refl _ _).alloc (Nat.le_refl _) _
   have hs5:w5.heap.size=nb+1:=by rw[<-hw5,<-hnb];simp
   rw[hw5];(try rw[hnb]);have HL5:=hid l5;have HB5:=hid b5;have HS5:Hid (w5.heap.size=nb+1/\wq.heap.size=nb):=hid ⟨hs5,hnb⟩;have y3:w5.cell? ⟨nb,3,none⟩=some (.slice ka n.keys.length kc):=b5.cell 3;have y4:w5.cell? ⟨nb,4,none⟩=some (.slice ia n.items.length ic):=b5.cell 4;have yf:∀i,w5.frozen? ⟨nb,i,none⟩=false:=b5.frozen;have HY:Hid (∀W,Below w5.heap.size w5 W->W.cell? ⟨nb,3,none⟩=some (.slice ka n.keys.length kc)/\W.cell? ⟨nb,4,none⟩=some (.slice ia n.items.length ic)/\∀i,W.frozen? ⟨nb,i,none⟩=false):=hid (fun W hW=>⟨(b5.below hW b5.lt).cell 3,(b5.below hW b5.lt).cell 4,(b5.below hW b5.lt).frozen⟩);clear hw5 hnb b5 l5 hs5 x0 x1 x2 x3 x4;have HSK:Hid (∀W,Below w5.heap.size w5 W->Calls prog 83 #[.slice ka n.keys.length kc,.int .i64 d] W fun e w'=>Below w5.heap.size w5 w'/\Below W.heap.size W w'/\∃g,g=W.heap.size/\e=.returned (.slice (some ⟨g,0,none⟩) n.keys.length n.keys.length)/\Blk w' g 3 (icells (n.keys.map (· +d)))):=hid (fun W hW=>by
    have hb:Below B wq W:=(HL5.out.mono (by have:=HS5.out;have:=HBQ.out;omega)).trans (hW.mono (by have:=HS5.out;have:=HBQ.out;omega));refine(zfq ka kc d n.keys hkl HXB.out.1 (by omega) W B (by have:=hb.size;have:=HBQ.out;omega) (HKI.out.1.below hb)).mono ?_;rintro e w' ⟨rfl,h1,h2⟩;exact⟨hW.trans (h1.mono hW.size),h1,_,rfl,rfl,h2⟩)
   have HSI:Hid (∀W,Below w5.heap.size w5 W->Calls prog 83 #[.slice ia n.items.length ic,.int .i64 d] W fun e w'=>Below w5.heap.size w5 w'/\Below W.heap.size W w'/\∃g,g=W.heap.size/\e=.returned (.slice (some ⟨g,0,none⟩) n.items.length n.items.length)/\Blk w' g 3 (icells (n.items.map (· +d)))):=hid (fun W hW=>by
    have hb:Below B wq W:=(HL5.out.mono (by have:=HS5.out;have:=HBQ.out;omega)).trans (hW.mono (by have:=HS5.out;have:=HBQ.out;omega));refine(zfq ia ic d n.items hil HXB.out.2 (by omega) W B (by have:=hb.size;have:=HBQ.out;omega) (HKI.out.2.below hb)).mono ?_;rintro e w' ⟨rfl,h1,h2⟩;exact⟨hW.trans (h1.mono hW.size),h1,_,rfl,rfl,h2⟩)
   go_cut [8] (fun s8 wx=>s8=.pointer (some ⟨nb,0,none⟩)/\∃g1 g2 wy,wy=wx/\Hid (ShBox wq wy nb n d g1 g2))
   case first=>
    go_region_with ((first
     | (go_at_call 83;(with_reducible refine(HSK.out _ ?_).mono ?_);(first|assumption|exact Below.refl _ _|exact(Below.refl _ _).drew|exact Below.drew (by assumption));rintro e1 wc1 ⟨hb1,hc1,g1,hg1,rfl,hbk1⟩;obtain⟨q13,q14,q1f⟩:=HY.out wc1 hb1;have HG1:=hid hg1;clear hg1)
     | (go_at_call 83;(with_reducible refine(HSI.out _ ?_).mono ?_);(first|assumption|exact Below.refl _ _|exact(Below.refl _ _).drew|exact Below.drew (by assumption));rintro e2 wc2 ⟨hb2,hc2,g2,hg2,rfl,hbk2⟩;obtain⟨q23,q24,q2f⟩:=HY.out wc2 hb2;have HG2:=hid hg2;clear hg2)))
    all_goals
     go_wp2;go_meet;have e1:g1=nb+1:=by have:=HG1.out;have h2:=HS5.out;rw[show w5.drew.heap.size=w5.heap.size from rfl]at this;omega
     have e2:g1<g2:=by have:=HG2.out;have:=hbk1.lt;omega
     refine⟨rfl,g1,g2,_,rfl,hid ⟨((HB5.out.below hb2 HB5.out.lt).set_ 3 _).set_ 4 _,((hbk1.below hc2 hbk1.lt).far (by simp;omega) _).far (by simp;omega) _,(hbk2.far (by simp;omega) _).far (by simp;omega) _,by have:=HS5.out;omega,by have:=HS5.out;omega,by omega,?_⟩⟩;have hw:wq.heap.size=nb:=HS5.out.2;rw[hw];exact((HL5.out.trans (hb2.mono (by have:=HS5.out;omega))).setCell (by simp) _).setCell (by simp) _
   case rest=>
    obtain⟨rfl,g1,g2,w6,rfl,HX⟩:=hcut;obtain⟨z0,z1,z2,z3,z4⟩:=cells5 HX.out.box;have hb6:Below wq.heap.size wq w6:=HX.out.below;have HT6:=hid (HW.out.1.later hb6);have hs6:wq.heap.size<w6.heap.size:=by have:=HX.out.b2.lt;have:=HX.out.lo2;omega
    obtain⟨x,hxv⟩:∃x:NV,x=⟨n.kind,n.text,n.ord,⟨some ⟨g1,0,none⟩,n.keys.length,n.keys.length⟩,⟨some ⟨g2,0,none⟩,n.items.length,n.items.length⟩⟩:=⟨_,rfl⟩
    have hrow6:=HT6.out.row;have hl6:vs1.length=d+j:=by
     have:=HT6.out.rows.len;rw[this,List.length_append,List.length_map,List.length_take,HD.out];omega
    have HROW:Hid (OwnRow nodeL w6 B 35 (.slice A1 (d+j) c1) vs1):=hid hrow6;have HL6:=hid hl6;have HBQ6:Hid (B<=w6.heap.size):=hid (by have:=HBQ.out;omega);have HXV:=hid hxv;have HB6:=hid hb6;have HS6:=hid hs6;clear hrow6 hl6 hxv hb6 hs6 y3 y4 yf;go_wp2_with (at_builtin;go_must (refine zac _ rfl (.tmp 28) (.tmp 30) 22 35 80 rfl nodeT B (.slice A1 (d+j) c1) vs1 rfl (HROW.out.alloc _) _ _ 1 [x] rfl (RowAt.lit1 _ _ (by rw[HXV.out];rfl) _ ?_) ?_ ?_ ?_))
    any_goals (first|rfl| (have:=HL6.out;have:=HBQ6.out;simp;omega))
    intro v' w7 hown hg hat;obtain⟨A2,c2,hv2,_⟩:=hown.form;have hl7:(vs1++[x]).length=d+(j+1):=by rw[List.length_append,HL6.out];rfl
    rw[hl7]at hv2;subst hv2;have hk3:KeptT 3 w6 w7:=(KeptT.alloc _ _ _).trans (KeptT.grown hg (HROW.out.alloc _) (by decide));have hkG:KeptT 24 w6 w7:=(KeptT.alloc _ _ _).trans (KeptT.grown hg (HROW.out.alloc _) (by decide));have hb7:Below B w6 w7:=((Below.refl B w6).alloc HBQ6.out _).trans ((HROW.out.alloc _).grown_below hg (by rw[World.size_alloc];have:=HBQ6.out;omega));have hlow:wq.heap.size<=g1/\wq.heap.size<=g2:=⟨HX.out.lo1,HX.out.lo2⟩
    have hTab:Tab B w7 (.slice A2 (d+(j+1)) c2) (vs1++[x]) (ns++(gs.take (j+1)).map (shN d)):=by
     rw[HTJ.out,<-List.append_assoc];refine⟨hown,(HT6.out.rows.kept hk3).snoc x (shN d n) (by rw[HXV.out];exact⟨rfl,rfl,rfl⟩) ?_ ?_ ?_ ?_⟩
     ·rw[HXV.out];exact zd8 (hk3 _ _ HX.out.b1) (by have:=HBQ.out;omega) (by simp[shN]) (by simp only[maxLen];omega)
     ·rw[HXV.out];exact zd8 (hk3 _ _ HX.out.b2) (by have:=HBQ.out;omega) (by simp[shN]) (by simp only[maxLen];omega)
     ·intro g e1 e2;rw[HXV.out]at e1 e2;simp[SV.v,Value.ownBlock]at e1 e2;have:=HX.out.ne_;omega
     ·intro j' b' g e1;have:=((HW.out.1.rows.own j' b').lt g e1).2;rw[HXV.out];constructor<;>(intro e2;simp[SV.v,Value.ownBlock]at e2;omega)
    have HNX:Hid (Tab B w7 (.slice A2 (d+(j+1)) c2) (vs1++[x]) (ns++(gs.take (j+1)).map (shN d))/\Below B w1 w7/\KeptT 24 w1 w7/\w1.heap.size<=w7.heap.size):=hid ⟨hTab,(HW.out.2.1.trans (HB6.out.mono HBQ.out)).trans hb7,(HW.out.2.2.1.trans (KeptT.later HB6.out)).trans hkG,by have:=HW.out.2.2.2;have:=HS6.out;have:=hb7.size;omega⟩;clear hown hg hat hl7 hk3 hkG hb7 hTab hlow z0 z1 z2 z3 z4;go_wp2;go_roundw
    case rel=>exact⟨j+1,A2,c2,vs1++[x],by omega,by go_num,rfl,HNX⟩
    case measure=>simp[intOf];omega
  ·have hltI:¬(j:Int)<(gs.length:Int):=by omega
   have hje:j=gs.length:=by omega
   have HRES:Hid (Tab B wq (.slice A1 (d+j) c1) vs1 (ns++gs.map (shN d))/\Below B w wq):=hid ⟨by
    have:=HW.out.1;rwa[hje,List.take_length,<-hje]at this,HL1.out.trans HW.out.2.1⟩
   clear hje;have g1:wq.cell? ⟨gb,1,none⟩=some (.int .i64 root):=(HW.out.2.2.1 _ _ HB1.out).cell 1;have hdd:d<=1073741823:=by omega
   have hrr:root<=1073741823:=by omega
   go_upto_region 8 with fail;go_quiet (fail);go_wp2;go_ret2;rw[HD.out];exact⟨_,vs1,rfl,HRES.out.1.later (below_drewN (Below.refl _ _) _),below_drewN HRES.out.2 _⟩
namespace Gr
def Nd.ni (x:Nd):Ni:=⟨x.kind,x.text,x.ord,x.keys.map Int.ofNat,x.items.map Int.ofNat⟩
theorem zyt (x:Nd):x.ni.nd=x:=by
 cases x;simp[Nd.ni,Ni.nd,Function.comp_def]
theorem zrt (ns:List Nd):(ns.map Nd.ni).map Ni.nd=ns:=by
 rw[List.map_map]
 conv=>rhs;rw[<-List.map_id ns]
 exact List.map_congr_left (fun x _=>zyt x)
theorem zwy (ns:List Nd) (root:Nat) (hr:Refs ns) (hroot:root<ns.length):indB (ns.map Nd.ni) (root:Int)=true:=by
 unfold indB inR;simp only[List.length_map,Bool.and_eq_true,decide_eq_true_eq];refine⟨⟨by omega,by omega⟩,?_⟩;rw[List.all_map,List.all_eq_true];intro x hx;show rng ns.length x.ni=true;unfold rng;rw[show x.ni.keys++x.ni.items=(x.keys++x.items).map Int.ofNat from by simp[Nd.ni],List.all_map,List.all_eq_true];intro y hy;have:=hr x hx y hy;simp[inR];omega
end Gr
open Go.RowKit
theorem zwz (l:List Nat):intI.all (l.map Int.ofNat)=intL.all l:=by
 induction l with
 |nil=>rfl
 |cons x l ih=>
  have e1:intI.all (Int.ofNat x::l.map Int.ofNat)=intI.enc (Int.ofNat x)++intI.all (l.map Int.ofNat):=rfl;have e2:intL.all (x::l)=intL.enc x++intL.all l:=rfl;rw[List.map_cons,e1,e2,ih];rfl
theorem zfr {w:World} {B:Nat} {A:Option Addr} {l:List Nat} (h:RowAt intL w B A l):RowAt intI w B A (l.map Int.ofNat):=by
 unfold RowAt at h ⊢;rw[zwz,List.length_map];exact h
theorem GAt.toI {w:World} {B:Nat} {A:Option Addr} {vs:List NV} {ns:List Gr.Nd} (h:GAt w B A vs ns):IAt w B A vs (ns.map Gr.Nd.ni):=by
 refine⟨h.row,by simp[h.len],fun j h1 h2=>?_,fun j h1 h2=>?_⟩
 ·rw[List.length_map]at h2;rw[List.getElem_map];exact h.kind j h1 h2
 ·rw[List.length_map]at h2;rw[List.getElem_map];obtain⟨a,b,c,d⟩:=h.nums j h1 h2;exact⟨zfr a,by rw[b];simp[Gr.Nd.ni],zfr c,by rw[d];simp[Gr.Nd.ni]⟩
def checkG (sclr:Int->Gr.Str->Bool) (ns:List Gr.Nd) (root:Nat):Nat:=if ns.length>4096 then 7 else checkN sclr ns root
theorem zru (T:World->Prop) (hT:Stays T) (sclr:Int->Gr.Str->Bool) (A:Option Addr) (c root:Nat) (vs:List NV) (ns:List Gr.Nd) (hks:NH ns) (hsc:ScalsOk T sclr ns) (hl:ns.length<=1073741823) (hr:Refs ns) (hroot:root<ns.length) (w:World) (hTw:T w) (h:GAt w w.heap.size A vs ns):
 Calls prog 14 #[.agg #[.slice A ns.length c,.int .i64 root]] w fun e w'=>e=.returned (.int .i64 (checkG sclr ns root:Nat))/\Below w.heap.size w w':=by
 have:=zfa T hT sclr A c (root:Int) vs (ns.map Gr.Nd.ni) (by rw[zrt];exact hks) (by rw[zrt];exact hsc) (by simpa using hl) w hTw h.toI;rw[List.length_map]at this;have e:checkI sclr (ns.map Gr.Nd.ni) (root:Int)=checkG sclr ns root:=by
  unfold checkI checkG;rw[List.length_map,zrt,zwy ns root hr hroot];by_cases h1:ns.length>4096
  ·rw[if_pos h1,if_pos h1]
  ·rw[if_neg h1,if_neg h1,if_neg (by simp;intro e;rw[e]at hroot;simp at hroot),Int.toNat_natCast]
 rw[e]at this;exact this
def ChkOk (w:World) (g:Value) (chk:Nat):Prop:=∀W,Below w.heap.size w W->Calls prog 14 #[g] W fun e w'=>e=.returned (.int .i64 (chk:Nat))/\Below W.heap.size W w'
theorem ChkOk.later {w w':World} {g:Value} {chk:Nat} (h:ChkOk w g chk) (hb:Below w.heap.size w w'):ChkOk w' g chk:=fun W hW=>h W (hb.trans (hW.mono hb.size))
def gZero:Value:=.agg #[.slice none 0 0,.int .i64 0]
theorem zkk (A:Option Addr) (n c:Nat) (root:Int) (chk:Nat) (w:World) (h:ChkOk w (.agg #[.slice A n c,.int .i64 root]) chk):
 Calls prog 50 #[.agg #[.slice A n c,.int .i64 root]] w fun e w'=>e=.returned (.tuple #[if chk=0 then .agg #[.slice A n c,.int .i64 root]else gZero,.int .i64 (chk:Nat)])/\Below w.heap.size w w':=by
 have HC:=hid h;clear h;go_enter func50,ntmps50;go_upto_region 1 with fail;obtain⟨w1,hw1⟩:=ex ((w.alloc (.cells #[.slice A n c,.int .i64 root] 24)).alloc (.cells #[.slice none 0 0,.int .i64 0] 24))
 obtain⟨gb,hgb⟩:=ex w.heap.size
 have b1:Blk w1 gb 24 #[.slice A n c,.int .i64 root]:=by rw[<-hw1,<-hgb];exact(Blk.new _ _ _).alloc _
 have b2:Blk w1 (gb+1) 24 #[.slice none 0 0,.int .i64 0]:=by rw[<-hw1,<-hgb];have:=Blk.new (w.alloc (.cells #[.slice A n c,.int .i64 root] 24)) 24 #[.slice none 0 0,.int .i64 0];rwa[World.size_alloc]at this
 have l1:Below gb w w1:=by rw[<-hw1,<-hgb];exact((Below.refl _ _).alloc (Nat.le_refl _) _).alloc (by simp) _
 have HL1:=hid l1;have HGB:=hid hgb;have HCC:Hid (ChkOk w1 (.agg #[.slice A n c,.int .i64 root]) chk):=hid (HC.out.later (by rw[hgb];exact l1));have HB1:=hid b1;have HB2:=hid b2;obtain⟨g0,g1⟩:=cells2 b1;(try rw[hw1]);(try rw[hgb]);clear hw1 hgb b1 b2 l1;go_wp2_with fail;refine(HCC.out w1 (Below.refl _ _)).mono ?_;rintro e w2 ⟨rfl,hb2⟩;have hc1:=HB1.out.below hb2 HB1.out.lt;have hc2:=HB2.out.below hb2 HB2.out.lt;have HLB:Hid (Below gb w w2):=hid (HL1.out.trans (hb2.mono (by have:=HB1.out.lt;omega)));obtain⟨k0,k1⟩:=cells2 hc1;obtain⟨d0,d1⟩:=cells2 hc2;have df:∀i,w2.frozen? ⟨gb+1,i,none⟩=false:=hc2.frozen;have HC2:=hid hc2;clear hb2 hc1 hc2 g0 g1;by_cases h0:chk=0
 ·subst h0;go_wp2_with fail;have e0:=((HC2.out.set_ 0 (.slice A n c)).set_ 1 (.int .i64 root)).cell 0;have e1:=((HC2.out.set_ 0 (.slice A n c)).set_ 1 (.int .i64 root)).cell 1;refine bodyPost_ret (v:=.tuple #[.agg #[.slice A n c,.int .i64 root],.int .i64 0]) (by rw[results_cell_tmp rfl];go_simp) rfl ⟨rfl,?_⟩;rw[HGB.out];exact(HLB.out.setCell (by simp) _).setCell (by simp) _
 ·have h0I:((chk:Int)==0)=false:=by rw[beq_eq_false_iff_ne];omega
  go_wp2_with fail;refine bodyPost_ret (v:=.tuple #[gZero,.int .i64 chk]) (by rw[results_cell_tmp rfl];go_simp;rfl) rfl ⟨by first|rfl|rw[if_neg h0],?_⟩;rw[HGB.out];exact(HLB.out.setCell (by simp) _).setCell (by simp) _
theorem zlv (A:Option Addr) (n c:Nat) (root:Int) (chk:Nat) (w:World) (h:ChkOk w (.agg #[.slice A n c,.int .i64 root]) chk):
 Calls prog 21 #[.agg #[.slice A n c,.int .i64 root]] w fun e w'=>e=.returned (.int .i64 (if chk=0 then(n:Int)else 0))/\Below w.heap.size w w':=by
 obtain⟨w1,hw1⟩:=ex (w.alloc (.cells #[.slice A n c,.int .i64 root] 24))
 have l1:Below w.heap.size w w1:=by rw[<-hw1];exact(Below.refl _ _).alloc (Nat.le_refl _) _
 have HCC:Hid (ChkOk w1 (.agg #[.slice A n c,.int .i64 root]) chk):=hid (h.later l1);have HL1:=hid l1;clear h l1;go_enter func21,ntmps21;go_upto_region 1 with fail;have b1:Blk w1 w.heap.size 24 #[.slice A n c,.int .i64 root]:=by rw[<-hw1];exact Blk.new _ _ _
 obtain⟨g0,g1⟩:=cells2 b1;have HB1:=hid b1;(try rw[hw1]);clear hw1 b1;go_wp2_with fail;refine(HCC.out w1 (Below.refl _ _)).mono ?_;rintro e w2 ⟨rfl,hb2⟩;have HLB:Hid (Below w.heap.size w w2):=hid (HL1.out.trans (hb2.mono HL1.out.size));have hc1:=HB1.out.below hb2 HB1.out.lt;have k0:w2.cell? ⟨w.heap.size,0,none⟩=some (.slice A n c):=hc1.cell 0;clear hb2 hc1 g0 g1;by_cases h0:chk=0
 ·subst h0;go_wp2;go_ret;exact⟨rfl,HLB.out⟩
 ·have h0I:((chk:Int)==0)=false:=by rw[beq_eq_false_iff_ne];omega
  go_wp2;go_ret;exact⟨by first|rfl| (rw[if_neg h0];rfl),HLB.out⟩
def DepOk (w:World) (g:Value) (p:Int×Bool):Prop:=∀W,Below w.heap.size w W->Calls prog 39 #[g] W fun e w'=>e=.returned (.tuple #[.int .i64 p.1,.bool p.2])/\Below W.heap.size W w'
theorem zfs (A:Option Addr) (n c:Nat) (root:Int) (chk:Nat) (p:Int×Bool) (w:World) (h:ChkOk w (.agg #[.slice A n c,.int .i64 root]) chk) (hd:chk=0->DepOk w (.agg #[.slice A n c,.int .i64 root]) p):
 Calls prog 22 #[.agg #[.slice A n c,.int .i64 root]] w fun e w'=>e=.returned (.tuple #[.int .i64 (if chk=0 then p.1 else 0),.bool (if chk=0 then p.2 else false)])/\Below w.heap.size w w':=by
 obtain⟨w1,hw1⟩:=ex (w.alloc (.cells #[.slice A n c,.int .i64 root] 24))
 have l1:Below w.heap.size w w1:=by rw[<-hw1];exact(Below.refl _ _).alloc (Nat.le_refl _) _
 have HCC:Hid (ChkOk w1 (.agg #[.slice A n c,.int .i64 root]) chk):=hid (h.later l1);have HL1:=hid l1;have HD:=hid hd;clear h l1 hd;go_enter func22,ntmps22;go_upto_region 1 with fail;have b1:Blk w1 w.heap.size 24 #[.slice A n c,.int .i64 root]:=by rw[<-hw1];exact Blk.new _ _ _
 obtain⟨g0,g1⟩:=cells2 b1;have HB1:=hid b1;(try rw[hw1]);clear hw1 b1;go_wp2_with fail;refine(HCC.out w1 (Below.refl _ _)).mono ?_;rintro e w2 ⟨rfl,hb2⟩;have hlb:Below w.heap.size w w2:=HL1.out.trans (hb2.mono HL1.out.size);have HLB:=hid hlb;have hc1:=HB1.out.below hb2 HB1.out.lt;obtain⟨k0,k1⟩:=cells2 hc1;clear hb2 hc1 g0 g1 hlb;by_cases h0:chk=0
 ·have HDD:=hid (HD.out h0 w2 HLB.out);subst h0;go_wp2_with fail;refine HDD.out.mono ?_;rintro e w3 ⟨rfl,hb3⟩;have HL3:Hid (Below w.heap.size w w3):=hid (HLB.out.trans (hb3.mono HLB.out.size));clear hb3;go_wp2;go_ret2;exact⟨rfl,HL3.out⟩
 ·have h0I:((chk:Int)==0)=false:=by rw[beq_eq_false_iff_ne];omega
  go_wp2;go_ret2;exact⟨by first|rfl| (rw[if_neg h0,if_neg h0];rfl),HLB.out⟩
def zw0 (w:World) (kind:Int) (text:Gr.Str) (r:Bool) (e:Ending) (w':World):Prop:=
 Below w.heap.size w w'/\(r=false->e=.returned (.tuple #[gZero,.int .i64 3]))/\(r=true->∃g,w.heap.size<=g/\e=.returned (.tuple #[.agg #[.slice (some ⟨g,0,none⟩) 1 1,.int .i64 0],.int .i64 0])/\Blk w' g 35 #[.int .i64 kind,.string ⟨text.toArray⟩,.bool false,.slice none 0 0,.slice none 0 0])
theorem zd9 (T:World->Prop) (hT:Stays T) (kind:Int) (text:Gr.Str) (r:Bool) (hk:0<=kind) (hk8:kind<=8) (hs:ScalOk T kind text r) (w:World) (hTw:T w):
 Calls prog 16 #[.int .i64 kind,.string ⟨text.toArray⟩] w (zw0 w kind text r):=by
 have c1:¬kind<0:=by omega
 have c2:¬(8:Int)<kind:=by omega
 obtain⟨w1,hw1⟩:=ex (w.alloc (.cells #[.slice none 0 0,.int .i64 0] 24))
 obtain⟨gb,hgb⟩:=ex w.heap.size
 have l1:Below gb w w1:=by rw[<-hw1,<-hgb];exact(Below.refl _ _).alloc (Nat.le_refl _) _
 have b1:Blk w1 gb 24 #[.slice none 0 0,.int .i64 0]:=by rw[<-hw1,<-hgb];exact Blk.new _ _ _
 have HS:=hid (hs w1 (hT _ _ hTw (by rw[hgb];exact l1)));have HL1:=hid l1;have HB1:=hid b1;have HGB:=hid hgb;clear hs hTw l1 b1;go_enter func16,ntmps16;go_upto_region 1 with fail;(try rw[hw1]);(try rw[hgb]);clear hw1 hgb;go_wp2_with fail;refine HS.out.mono ?_;rintro e w2 ⟨rfl,hb2⟩;have hc1:=HB1.out.below hb2 HB1.out.lt;have HLB:Hid (Below gb w w2):=hid (HL1.out.trans (hb2.mono (by have:=HB1.out.lt;omega)));have HC1:=hid hc1;have df:∀i,w2.frozen? ⟨gb,i,none⟩=false:=hc1.frozen;have df2:∀o i,(w2.alloc o).frozen? ⟨gb,i,none⟩=false:=fun o=>(hc1.alloc o).frozen
 obtain⟨d0,d1⟩:=cells2 hc1;have d2:∀o,(w2.alloc o).cell? ⟨gb,0,none⟩=some (.slice none 0 0):=fun o=>(hc1.alloc o).cell 0
 have d3:∀o,(w2.alloc o).cell? ⟨gb,1,none⟩=some (.int .i64 0):=fun o=>(hc1.alloc o).cell 1
 have HSZ:Hid (gb<w2.heap.size):=hid hc1.lt;clear hb2 hc1;cases r with
 |false=>
  go_wp2_with fail;refine bodyPost_ret (v:=.tuple #[gZero,.int .i64 3]) (by rw[results_cell_tmp rfl];go_simp;rfl) rfl ⟨?_,fun _=>rfl,fun h=>nomatch h⟩;rw[HGB.out];exact(HLB.out.setCell (by simp) _).setCell (by simp) _
 |true=>
  go_wp2_with fail;obtain⟨o,ho⟩:=ex (Obj.cells #[Value.int IntKind.i64 kind,Value.string {data:=List.toArray text},Value.bool false,Value.slice none 0 0,Value.slice none 0 0] 35)
  rw[ho];obtain⟨ng,hng⟩:=ex w2.heap.size
  rw[hng];have HC3:=((HC1.out.alloc o).set_ 0 (.slice (some ⟨ng,0,none⟩) 1 1)).set_ 1 (.int .i64 0);have e0:=HC3.cell 0;have e1:=HC3.cell 1;have HLB2:=HLB.out;have HSZ2:=HSZ.out;have hbn:Blk (w2.alloc o) ng 35 #[.int .i64 kind,.string ⟨text.toArray⟩,.bool false,.slice none 0 0,.slice none 0 0]:=by rw[<-hng,<-ho];exact Blk.new _ _ _
  refine bodyPost_ret (v:=.tuple #[.agg #[.slice (some ⟨ng,0,none⟩) 1 1,.int .i64 0],.int .i64 0]) ?_ rfl (And.intro ?_ (And.intro (fun h=>nomatch h) (fun _=>⟨ng,?_,rfl,?_⟩)))
  ·rw[results_cell_tmp rfl];go_simp
  ·rw[HGB.out];exact((HLB2.alloc (by omega) o).setCell (by simp) _).setCell (by simp) _
  ·rw[HGB.out];omega
  ·exact(hbn.far (by simp;omega) _).far (by simp;omega) _
open Go.RowKit
theorem Tab.push {B:Nat} {w1 w2:World} {g n cap k:Nat} {x:NV} {vl:List NV} {m:Gr.Nd} {nl:List Gr.Nd} {v:Value} (h:Tab B w1 (.slice (some ⟨g,0,none⟩) n cap) (x::vl) (m::nl))
 (hown:OwnRow intL w2 B 3 v (m.items++[k])) (hg:w1.grownBy w2 x.i.v.ownBlock) (hat:v.ownBlock=x.i.v.ownBlock\/v.ownBlock=some w1.heap.size):
 ∃i:SV,v=i.v/\Tab B (w2.setCell ⟨g,4,none⟩ v) (.slice (some ⟨g,0,none⟩) n cap) ({x with i:=i}::vl) ({m with items:=m.items++[k]}::nl)/\(∀t,t≠35->t≠3->KeptT t w1 (w2.setCell ⟨g,4,none⟩ v))/\(B<=w1.heap.size->Below B w1 (w2.setCell ⟨g,4,none⟩ v)):=by
 obtain⟨A,c,hv,_⟩:=hown.form;have hi:ints (x::vl) 0 true=x.i:=rfl;have hm:intsOf (m::nl) 0 true=m.items:=rfl;have ho:=h.rows.own 0 true;rw[hi,hm]at ho;have hkN:KeptT 35 w1 w2:=KeptT.grown hg ho (by decide);obtain⟨g',cap',rest,hv',hcap,hb,hbg,hback⟩:=h.row.row (by simp);obtain⟨rfl,rfl,rfl⟩:g=g'/\n=(x::vl).length/\cap=cap':=by
  grind
 have hb2:=hkN _ _ hb;have h5:=znt hb2 0 (by simp) ⟨A,(m.items++[k]).length,c⟩;have hv2:v=(⟨A,(m.items++[k]).length,c⟩:SV).v:=hv;rw[<-hv2,Nat.zero_mul,Nat.zero_add]at h5;have hk2:KeptT 3 w2 (w2.setCell ⟨g,4,none⟩ v):=KeptT.setCell (p:=⟨g,4,none⟩) hb2 (by decide) v;refine⟨⟨A,(m.items++[k]).length,c⟩,hv2,⟨hback _ _ (by simp) h5,?_⟩,?_,?_⟩
 ·have hr:=h.rows.grow (w':=w2) 0 true {x with i:=⟨A,(m.items++[k]).length,c⟩} {m with items:=m.items++[k]} (by simp) ⟨rfl,rfl,rfl⟩ ⟨rfl,rfl,rfl⟩ rfl rfl (by rw[if_pos rfl,if_pos rfl,<-hv2];exact hown) hg (by rw[if_pos rfl,<-hv2];exact hat);exact hr.kept hk2
 ·intro t h1 h2;exact(KeptT.grown hg ho (fun e=>h2 e.symm)).trans (KeptT.setCell (p:=⟨g,4,none⟩) hb2 h1 v)
 ·intro hB;exact(ho.grown_below hg hB).setCell hbg v
theorem Tab.one {B:Nat} {w:World} {g:Nat} {kind:Int} {text:Gr.Str} {ord:Bool} (h:Blk w g 35 #[.int .i64 kind,.string ⟨text.toArray⟩,.bool ord,.slice none 0 0,.slice none 0 0]) (hB:B<=g):
 Tab B w (.slice (some ⟨g,0,none⟩) 1 1) [⟨kind,text,ord,SV.nil,SV.nil⟩] [⟨kind,text,ord,[],[]⟩]:=by
 have hr:=(Rows.nil B w).snoc ⟨kind,text,ord,SV.nil,SV.nil⟩ ⟨kind,text,ord,[],[]⟩ ⟨rfl,rfl,rfl⟩ OwnRow.nil OwnRow.nil (fun g h=>by simp[SV.nil,SV.v,Value.ownBlock]at h) (fun j b g h=>by simp[ints,SV.nil,SV.v,Value.ownBlock]at h);refine⟨⟨nodeL.all_len _,.inr ⟨g,1,_,rfl,hB,h,Nat.le_refl _,by decide,rfl,rfl⟩⟩,hr⟩
structure GArg where
 a:Option Addr
 c:Nat
 root:Int
 vs:List NV
 is:List Gr.Ni
def GArg.v (x:GArg):Value:=.agg #[.slice x.a x.is.length x.c,.int .i64 x.root]
def argL:Lay GArg:={enc:=fun x=>[.slice x.a x.is.length x.c,.int .i64 x.root],sz:=2,len:=fun _=>rfl,one:=fun x u hu=>by simp at hu;rcases hu with rfl|rfl<;>rfl,pos:=by omega}
theorem zux {w:World} {B:Nat} {A:Option Addr} {l:List GArg} {k:Nat} (h:RowAt argL w B A l) (hk:k<l.length):∃ad,A=some ad/\ad.block<B/\w.cell? (ad.add (k*2))=some (.slice l[k].a l[k].is.length l[k].c)/\
 w.cell? {block:=(ad.add (k*2)).block,off:=(ad.add (k*2)).off+1}=some (.int .i64 l[k].root):=by
 obtain⟨ad,h1,h2,h3,h4⟩:=h.get hk;exact⟨ad,h1,h2,h3 _ rfl,h4 1 _ (by omega) rfl⟩
structure GsAt (w:World) (B:Nat) (A:Option Addr) (l:List GArg):Prop where
 row:RowAt argL w B A l
 each:∀x∈l,IAt w B x.a x.vs x.is
theorem GsAt.below {w w':World} {B:Nat} {A:Option Addr} {l:List GArg} (h:GsAt w B A l) (hb:Below B w w'):GsAt w' B A l:=⟨h.row.below hb,fun x hx=>(h.each x hx).below hb⟩
theorem GsAt.more {w:World} {B B':Nat} {A:Option Addr} {l:List GArg} (h:GsAt w B A l) (hB:B<=B'):GsAt w B' A l:=⟨h.row.more hB,fun x hx=>(h.each x hx).more hB⟩
namespace Gr
def push0 (k:Nat):List Nd->List Nd
 | []=>[]
 |m::l=>{m with items:=m.items++[k]}::l
def lstep (ns:List Nd) (g:List Ni×Int):List Nd:=push0 (g.2.toNat+ns.length) (ns++(g.1.map Ni.nd).map (shN ns.length))
def listN (gs:List (List Ni×Int)):List Nd:=gs.foldl lstep [⟨9,[],false,[],[]⟩]
end Gr
def GArg.p (x:GArg):List Gr.Ni×Int:=(x.is,x.root)
def GArg.chk (sclr:Int->Gr.Str->Bool) (x:GArg):Nat:=checkI sclr x.is x.root
theorem zyd {sclr:Int->Gr.Str->Bool} {x:GArg} (h:x.chk sclr=0):x.is.length<=4096/\0<x.is.length/\indB x.is x.root=true:=by
 unfold GArg.chk checkI at h;by_cases h1:x.is.length>4096
 ·rw[if_pos h1]at h;cases h
 ·grind
theorem zye {is:List Gr.Ni} {root:Int} (h:indB is root=true):∃r:Nat,root=(r:Int)/\r<is.length/\(∀x∈is,∀y∈x.keys++x.items,0<=y)/\Refs (is.map Gr.Ni.nd):=by
 unfold indB at h;rw[Bool.and_eq_true]at h;have h1:=h.1;simp only[inR,Bool.and_eq_true,decide_eq_true_eq]at h1;refine⟨root.toNat,by omega,by omega,?_,?_⟩
 ·exact(za8 h.2).1
 ·exact(za8 h.2).2
namespace Gr
structure Bfs (sc:Nat->List Nat) (n a:Nat) (m:List Bool) (L:List Nat) (i:Nat) (P:List Nat):Prop where
 ml:m.length=n
 lt:∀x∈L,x<n
 nd:L.Nodup
 mem:∀x,mkd m x=true↔x∈L
 frm:a∈L
 re:∀x∈L,Reach sc a x
 done:∀j,j<i->∀x,L[j]? =some x->∀y∈sc x,mkd m y=true
 part:∀y∈P,mkd m y=true
section
variable {sc:Nat->List Nat} {n a i:Nat} {m:List Bool} {L P:List Nat}
theorem Bfs.start (h:a<n):Bfs sc n a ((List.replicate n false).set a true) [a] 0 [] where
 ml:=by simp
 lt x hx:=by rw[List.mem_singleton.1 hx];exact h
 nd:=by simp
 mem x:=by
  rw[zkt (by simpa using h),zf0];by_cases e:x=a
  ·simp[e]
  ·simp[e]
 frm:=by simp
 re x hx:=by rw[List.mem_singleton.1 hx];exact .refl a
 done j hj:=by omega
 part y hy:=by cases hy
theorem Bfs.old (h:Bfs sc n a m L i P) {y:Nat} (hy:mkd m y=true):Bfs sc n a m L i (P++[y]):=
 ⟨h.ml,h.lt,h.nd,h.mem,h.frm,h.re,h.done,fun z hz=>by
  rcases List.mem_append.1 hz with hz|hz
  ·exact h.part z hz
  ·rw[List.mem_singleton.1 hz];exact hy⟩
theorem Bfs.new (h:Bfs sc n a m L i P) {u y:Nat} (hi:L[i]? =some u) (hys:y∈sc u) (hyn:y<n) (hy:mkd m y=false):Bfs sc n a (m.set y true) (L++[y]) i (P++[y]):=by
 have hk:=fun x=>zkt (m:=m) (a:=y) (by rw[h.ml];exact hyn) x
 have hup:∀x,mkd m x=true->mkd (m.set y true) x=true:=fun x hx=>by rw[hk];split<;>simp_all
 have hil:i<L.length:=by
  grind
 refine⟨by simp[h.ml],?_,?_,?_,List.mem_append_left _ h.frm,?_,?_,?_⟩
 ·intro x hx;rcases List.mem_append.1 hx with hx|hx
  ·exact h.lt x hx
  ·grind
 ·rw[List.nodup_append];refine⟨h.nd,by simp,?_⟩;intro x hx z hz e;rw[List.mem_singleton.1 hz]at e;subst e;rw[(h.mem x).2 hx]at hy;cases hy
 ·intro x;rw[hk,List.mem_append];by_cases e:x=y
  ·simp[e]
  ·rw[if_neg e,h.mem];simp[e]
 ·intro x hx;rcases List.mem_append.1 hx with hx|hx
  ·exact h.re x hx
  ·rw[List.mem_singleton.1 hx];exact(h.re u (List.mem_of_getElem? hi)).trans (.one hys)
 ·intro j hj x hx z hz;rw[List.getElem?_append_left (by omega)]at hx;exact hup z (h.done j hj x hx z hz)
 ·intro z hz;rcases List.mem_append.1 hz with hz|hz
  ·exact hup z (h.part z hz)
  ·grind
theorem Bfs.next (h:Bfs sc n a m L i P) {u:Nat} (hi:L[i]? =some u) (hP:P=sc u):Bfs sc n a m L (i+1) []:=
 ⟨h.ml,h.lt,h.nd,h.mem,h.frm,h.re,fun j hj x hx y hy=>by
  rcases Nat.lt_or_ge j i with h1|h1
  ·exact h.done j h1 x hx y hy
  ·obtain rfl:j=i:=by omega
   rw[hi]at hx;injection hx with hx
   subst hx;exact h.part y (hP▸hy),fun y hy=>by cases hy⟩
theorem Bfs.len_le (h:Bfs sc n a m L i P):L.length<=n:=by
 rw[<-zdt n L h.nd h.lt];have:=List.countP_le_length (p:=fun i=>decide (i∈L)) (l:=List.range n);simpa using this
theorem Bfs.last (h:Bfs sc n a m L i P) (hi:L.length<=i) (x:Nat):mkd m x=true↔Reach sc a x:=by
 constructor
 ·intro hx;exact h.re x ((h.mem x).1 hx)
 ·intro hr;refine hr.closed (p:=fun x=>mkd m x=true) ?_ ((h.mem a).2 h.frm);intro u hu v hv;obtain⟨j,hj,rfl⟩:=List.getElem_of_mem ((h.mem u).1 hu);exact h.done j (by omega) _ (List.getElem?_eq_getElem hj) v hv
end
section
variable {ns:List Nd} {root a:Nat}
theorem zo6 {l m:List Bool} (hl:l.length=m.length) (h:∀x,mkd l x=true↔mkd m x=true):l=m:=by
 apply List.ext_getElem hl;intro i h1 h2;have:=h i;unfold mkd at this;simp only[List.getD_eq_getElem?_getD,List.getElem?_eq_getElem h1,List.getElem?_eq_getElem h2,Option.getD_some]at this;cases e1:l[i]<;>cases e2:m[i]<;>simp_all
theorem zbe (h:Refs ns) (hr:root<ns.length):(marks ns root).length=ns.length:=
 (zbq h.succ ns.length (List.replicate ns.length false) root (by simp) hr (zdu _)).len
theorem zf7 (h:Refs ns):(inKeys ns).length=ns.length:=by
 have hk:∀k∈allKeys ns,k<ns.length:=by
  intro k hk;obtain⟨y,hy,hky⟩:=List.mem_flatMap.1 hk;exact h y hy k (List.mem_append_left _ hky)
 exact(zev (zbq h.succ ns.length) (allKeys ns) (List.replicate ns.length false) hk (by simp) (zdu _)).len
theorem Bfs.marks {i:Nat} {m:List Bool} {L P:List Nat} (h:Refs ns) (ha:a<ns.length) (hb:Bfs (succ ns) ns.length a m L i P) (hi:L.length<=i):m=Gr.marks ns a:=
 zo6 (by rw[hb.ml,zbe h ha]) (fun x=>by rw[hb.last hi,za2 h ha])
def orM (o m:List Bool):List Bool:=List.zipWith (·|| ·) o m
theorem zo7 {o m:List Bool} (h:o.length=m.length):(orM o m).length=o.length:=by simp[orM,h]
theorem zue {o m:List Bool} (h:o.length=m.length) (x:Nat):mkd (orM o m) x=(mkd o x || mkd m x):=by
 unfold mkd orM;simp only[List.getD_eq_getElem?_getD,List.getElem?_zipWith];rcases Nat.lt_or_ge x o.length with h1|h1
 ·grind
 ·grind
theorem zik (h:Refs ns):∀(K:List Nat) (o:List Bool),(∀k∈K,k<ns.length)->o.length=ns.length->
 (K.foldl (fun o k=>orM o (Gr.marks ns k)) o).length=ns.length/\∀x,mkd (K.foldl (fun o k=>orM o (Gr.marks ns k)) o) x=true↔mkd o x=true\/∃k∈K,Reach (succ ns) k x:=by
 intro K
 induction K with
 |nil=>intro o _ hl;exact⟨hl,fun x=>by simp⟩
 |cons k K ih=>
  intro o hK hl;have hk:=hK k (.head _);have e:=zbe h hk;obtain⟨h1,h2⟩:=ih (orM o (Gr.marks ns k)) (fun z hz=>hK z (.tail _ hz)) (by rw[zo7 (by omega),hl]);refine⟨h1,fun x=>?_⟩;rw[List.foldl_cons,h2,zue (by omega),Bool.or_eq_true,za2 h hk];constructor
  ·grind
  ·grind
theorem zjq (h:Refs ns):(allKeys ns).foldl (fun o k=>orM o (Gr.marks ns k)) (List.replicate ns.length false)=Gr.inKeys ns:=by
 have hk:∀k∈allKeys ns,k<ns.length:=by
  intro k hk;obtain⟨y,hy,hky⟩:=List.mem_flatMap.1 hk;exact h y hy k (List.mem_append_left _ hky)
 obtain⟨h1,h2⟩:=zik h (allKeys ns) (List.replicate ns.length false) hk (by simp);refine zo6 (by rw[h1,zf7 h]) (fun x=>?_);rw[h2,zam h,zf0];simp
end
end Gr
open Go.Shelf Go.Lib Go.ChangeShapes Go.WideShapes Go.ChangeAt Go.RowKit
def laid7:List (String×DataW Unit):=Rows.graphLimitsRow.laid
theorem own:ownKnob prog.godebug=none:=by kernel_rfl
theorem zt9:Rows.laid_unicode_utf8_first=Lib.firstData:=by kernel_rfl
theorem zrx:(Rows.laid_unicode_utf8_acceptRanges:DataW Unit)=Lib.acceptData:=by kernel_rfl
noncomputable def laidWorld (os:Os):World:=World.laidAll prog os laid7
theorem zlx (os:Os) (args:Array Value):laidMet prog laid7 ((laidWorld os).forCall (fun _ _=>0) ⟨#[],args,[]⟩).memory:=laidMet_laidAll _ (by kernel_rfl) (by kernel_rfl)
theorem zry:("unicode/utf8.first",Lib.firstData)∈laid7:=by
 rw[<-zt9];exact .tail _ (.tail _ (.tail _ (.tail _ (.tail _ (.tail _ (.head _))))))
theorem znv:("unicode/utf8.acceptRanges",Lib.acceptData)∈laid7:=by
 rw[<-zrx];exact .tail _ (.tail _ (.tail _ (.head _)))
theorem zjd {W:World} (h:laidMet prog laid7 W):Lib.Utf8Tabs 1 2 W:=
 utf8Tabs_of_readsT (ρ:=lays197_ren) {lays197 with} ⟨by kernel_rfl,by kernel_rfl,by kernel_rfl,by kernel_rfl,by kernel_rfl,by kernel_rfl,by kernel_rfl⟩ (Lib.laidMet.reads h zry) (Lib.laidMet.reads h znv)
theorem zuy {W:World} {n:String} {k:IntKind} {zs:List Int} {t e:TypeId} {m g:Nat} (hg:prog.globalNamed n=some g) (hty:(prog.globals[g]?).map (·.type)=some t) (ht:prog.underlying t=some (.array m e)) (he:prog.underlying e=some (.int k)) (hce:prog.cellsOf e=1) (hct:prog.cellsOf t=m)
 (h:Lib.VarReads prog W n (Lib.tabData k zs)):Lib.TabIs prog W n k zs:=by
 obtain⟨g',t',cs,fuel,p,hg',ht',hvar,hd⟩:=h;obtain rfl:=Option.some.inj (hg.symm.trans hg');obtain rfl:=Option.some.inj (hty.symm.trans ht');unfold Lib.TabIs;rw[hvar,<-Lib.cells_of_tab ht he hce hct hd]
theorem zly {W:World} {n:String} {t g:Nat} {ms:Array (String×TypeId)} {nm:String} {d:DataW Unit} (hg:prog.globalNamed n=some g) (hty:(prog.globals[g]?).map (·.type)=some t) (ht:prog.underlying t=some (.interface ms))
 (h:Lib.VarReads prog W n (.iface nm d)):∃te p,W.cell? ⟨g,0,none⟩=some (.iface te p):=by
 obtain⟨g',t',cs,fuel,p,hg',ht',hvar,hd⟩:=h;obtain rfl:=Option.some.inj (hg.symm.trans hg');obtain rfl:=Option.some.inj (hty.symm.trans ht');cases fuel with
 |zero=>simp[DataW.trod]at hd
 |succ fuel=>
  have h0:=World.var?_cell hg hvar 0;unfold DataW.trod at hd;rw[ht]at hd;split at hd<;>simp_all;rename_i hcs;rw[<-Array.getElem?_toList,hcs];exact⟨_,_,rfl⟩
theorem zyh:(Rows.laid_internal_strconv_uint64pow10:DataW Unit)=Lib.tabData .u64 Lib.pow10Tab:=by kernel_rfl
theorem zyi:(Rows.laid_math_bits_deBruijn64tab:DataW Unit)=Lib.tabData .u8 (Lib.deBruijn64tab.map Int.ofNat):=by kernel_rfl
theorem zgk {W:World} (hl:laidMet prog laid7 W):UT W:=by
 have h:=zjd hl;have m2:("math/bits.deBruijn64tab",(Rows.laid_math_bits_deBruijn64tab:DataW Unit))∈laid7:=.tail _ (.head _);have m3:("internal/strconv.uint64pow10",(Rows.laid_internal_strconv_uint64pow10:DataW Unit))∈laid7:=.tail _ (.tail _ (.head _));have m5:("strconv.ErrRange",(Rows.laid_strconv_ErrRange:DataW Unit))∈laid7:=.tail _ (.tail _ (.tail _ (.tail _ (.head _))));have m6:("strconv.ErrSyntax",(Rows.laid_strconv_ErrSyntax:DataW Unit))∈laid7:=.tail _ (.tail _ (.tail _ (.tail _ (.tail _ (.head _)))));rw[zyi]at m2;rw[zyh]at m3;refine⟨h,?_,?_,?_,?_,?_⟩
 ·have h0:=(h.2 0 (by decide)).1;rcases Nat.lt_or_ge 2 W.heap.size with h1|h1
  ·exact h1
  ·rw[World.cell?]at h0;simp[Array.getElem?_eq_none h1]at h0
 ·exact zuy (t:=249) (e:=72) (m:=20) (g:=7) (by kernel_rfl) (by kernel_rfl) underlying249 underlying72 (by kernel_rfl) (by kernel_rfl) (Lib.laidMet.reads hl m3)
 ·have ht:=zuy (t:=228) (e:=5) (m:=64) (g:=6) (by kernel_rfl) (by kernel_rfl) underlying228 underlying5 (by kernel_rfl) (by kernel_rfl) (Lib.laidMet.reads hl m2);intro j hj;have:=ht.cell (g:=6) (by kernel_rfl) j (by simpa using hj);rw[this]
  congr 2
  rw[List.getD_eq_getElem?_getD,List.getD_eq_getElem?_getD,List.getElem?_map];cases Lib.deBruijn64tab[j]? <;>rfl
 ·exact zly (t:=150) (g:=4) (by kernel_rfl) (by kernel_rfl) underlying150 (Lib.laidMet.reads hl m6)
 ·exact zly (t:=150) (g:=5) (by kernel_rfl) (by kernel_rfl) underlying150 (Lib.laidMet.reads hl m5)
end Go.Proofs.YtoigpackhninoaaGreatDoor

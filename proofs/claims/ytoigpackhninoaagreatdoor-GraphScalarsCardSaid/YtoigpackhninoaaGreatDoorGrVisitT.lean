import Derived.Test.YtoigpackhninoaaGreatDoorGrStep
namespace Go.Proofs.YtoigpackhninoaaGreatDoor
open Gr
open _root_.Go.Proofs.Tryz
open _root_.Go.Lib (hid)
set_option maxRecDepth 100000
set_option maxHeartbeats 16000000
open Go.RowKit
def tlv:Nat->Code->Code
 | 0,c=>c
 |n+1,.seq _ b=>tlv n b
 |_+1,c=>c
section
variable {y:TL} {B D:Nat} {A:Option Addr} {c:Nat} {root:Int} {vs:List NV} {ns:List Gr.Nd}
theorem zoh (w:World) (s:Gr.TS) (vis:Gr.TS->Nat->Gr.TS) (sv zv:Value) (bA v x:Nat) (h:TAt y B D A c root vs ns w s sv zv) (hA:ABox y D w sv zv bA v) (hl:ns.length<=1073741823) (hv:v<ns.length) (hx:x<ns.length)
 (li:s.idx.length=ns.length) (ll:s.low.length=ns.length) (lo:s.on.length=ns.length) (hb1:s.lw v<=1073741824) (hb2:s.ix x<=1073741824)
 (hnew:s.ix x=0->(vis s x).low.length=ns.length/\(vis s x).lw v<=1073741824/\(vis s x).lw x<=1073741824/\Calls prog 85 (y.args (.int .i64 x)) w (TPost y B D A c root vs ns w sv zv (vis s x))):
 Calls prog 86 #[.int .i64 x,.pointer (some ⟨y.bI,0,none⟩),.pointer (some ⟨y.bV,0,none⟩),.pointer (some ⟨y.bL,0,none⟩),.pointer (some ⟨bA,0,none⟩),.pointer (some ⟨y.bO,0,none⟩)] w (TPost y B D A c root vs ns w sv zv (tstep vis v s x)):=by
 unfold tstep;by_cases hi:s.ix x=0
 ·rw[if_pos hi];obtain⟨n1,n2,n3,n4⟩:=hnew hi;exact zog w s (vis s x) sv zv bA v x h hA hl hv hx li n1 hi n2 n3 n4
 ·rw[if_neg hi];by_cases hon:s.onn x=true
  ·rw[if_pos hon];exact zq2 w s sv zv bA v x h hA hl hv hx li ll lo hi hon hb1 hb2
  ·rw[if_neg hon];exact zof w s sv zv bA x h hl hx li lo hi (by simpa using hon) hb2
theorem zld (hr:Refs ns) (hl:ns.length<=1073741823) {f:Nat} {s0:Gr.TS} {v:Nat} {G:Nat->Prop} (hI:Gr.Inv (Gr.succ ns) ns.length G s0) (hv:v<ns.length) (hv0:s0.ix v=0) (hg:∀g,G g->Gr.Reach (Gr.succ ns) g v) (hu:unv ns.length s0<=f+1)
 (ih:∀(s:Gr.TS) (v:Nat) (G:Nat->Prop) (w:World) (sv zv:Value),TAt y B D A c root vs ns w s sv zv->Gr.Inv (Gr.succ ns) ns.length G s->v<ns.length->s.ix v=0->(∀g,G g->Gr.Reach (Gr.succ ns) g v)->unv ns.length s<=f->
   Calls prog 85 (y.args (.int .i64 v)) w (TPost y B D A c root vs ns w sv zv (tvisit (Gr.succ ns) f s v)))
 {k:Nat} (hk:k<(Gr.succ ns v).length) (w:World) (sv zv:Value) (bA:Nat) (h:TAt y B D A c root vs ns w (((Gr.succ ns v).take k).foldl (tstep (tvisit (Gr.succ ns) f) v) (s0.push v)) sv zv) (hA:ABox y D w sv zv bA v):
 Calls prog 86 #[.int .i64 ((Gr.succ ns v)[k]:Nat),.pointer (some ⟨y.bI,0,none⟩),.pointer (some ⟨y.bV,0,none⟩),.pointer (some ⟨y.bL,0,none⟩),.pointer (some ⟨bA,0,none⟩),.pointer (some ⟨y.bO,0,none⟩)] w
  (TPost y B D A c root vs ns w sv zv (((Gr.succ ns v).take (k+1)).foldl (tstep (tvisit (Gr.succ ns) f) v) (s0.push v))):=by
 obtain⟨T,hL,hun⟩:=zdg hr.succ f s0 v hI hv hv0 hg hu k (by omega);have hxs:(Gr.succ ns v)[k]∈Gr.succ ns v:=List.getElem_mem hk;have hx:=hr.succ v _ hxs;rw[List.take_succ_eq_append_getElem hk,List.foldl_append];obtain⟨x,hxe⟩:=ex ((Gr.succ ns v)[k])
 rw[hxe]at hxs hx ⊢;obtain⟨s,hs⟩:=ex (((Gr.succ ns v).take k).foldl (tstep (tvisit (Gr.succ ns) f) v) (s0.push v))
 rw[hs]at h hL hun ⊢;have hnb:∀u,s.ix u<=1073741823:=fun u=>by have:=hL.inv.nx u;have:=hL.inv.bn;omega
 refine zoh w s (tvisit (Gr.succ ns) f) sv zv bA v x h hA hl hv hx hL.inv.li hL.inv.ll hL.inv.lo (by have:=hL.lwv;have:=hnb v;omega) (by have:=hnb x;omega) (fun hi=>?_);have hgx:∀g,(G g\/g=v)->Gr.Reach (Gr.succ ns) g x:=by
  rintro g (h1|rfl)
  ·exact(hg g h1).trans (.one hxs)
  ·exact .one hxs
 obtain⟨T2,hI2,hP2⟩:=ze9 hr.succ f s x (fun u=>G u\/u=v) hL.inv hx hi hgx hun;have hvx:s.ix v≠0:=by rw[hL.ixv];omega
 refine⟨hI2.ll,?_,?_,ih s x _ w sv zv h hL.inv hx hi hgx hun⟩
 ·rw[hP2.klw v hvx];have:=hL.lwv;have:=hnb v;omega
 ·by_cases hm:x∈T2
  ·obtain⟨z,_,h1,_⟩:=hP2.att hm;have:=hnb z;omega
  ·rw[(hP2.out hm).2];have:=hI2.nx x;have:=hI2.bn;omega
theorem TF.reval {sv zv sv' zv' sv2:Value} {w w':World} (h:TF y sv zv w w' sv' zv') (e:sv2.ownBlock=sv'.ownBlock):TF y sv zv w w' sv2 zv':=⟨h.os,h.tape,h.output,h.size,h.block,fun k hk=>h.fs k (e▸hk),h.fz⟩
theorem TAt.tfBelow {w w':World} {s:Gr.TS} {sv zv sv' zv':Value} (h:TAt y B D A c root vs ns w s sv zv) (hf:TF y sv zv w w' sv' zv'):Below B w w':=by
 refine⟨hf.os,hf.tape,hf.output,hf.size,fun k hk=>?_⟩;obtain⟨l1,l2,l3,l4,l5,l6,l7,l8⟩:=h.ok.lo;have:=h.hd;exact hf.block k (by omega) (by omega) (by omega) (by omega) (by omega) (by omega) (by omega) (by omega) (h.svD (by omega)) (h.zvD (by omega))
theorem zjl (hr:Refs ns) (hl:ns.length<=1073741823) (hks:∀n∈ns,n.keys.length<=1073741823/\n.items.length<=1073741823) {f:Nat} {s:Gr.TS} {v:Nat} {G:Nat->Prop} (hI:Gr.Inv (Gr.succ ns) ns.length G s) (hv:v<ns.length) (hv0:s.ix v=0) (hg:∀g,G g->Gr.Reach (Gr.succ ns) g v) (hu:unv ns.length s<=f+1)
 (ih:∀(s:Gr.TS) (v:Nat) (G:Nat->Prop) (w:World) (sv zv:Value),TAt y B D A c root vs ns w s sv zv->Gr.Inv (Gr.succ ns) ns.length G s->v<ns.length->s.ix v=0->(∀g,G g->Gr.Reach (Gr.succ ns) g v)->unv ns.length s<=f->
   Calls prog 85 (y.args (.int .i64 v)) w (TPost y B D A c root vs ns w sv zv (tvisit (Gr.succ ns) f s v)))
 (w wc:World) (sv zv sv1:Value) (bA:Nat) (hT:TAt y B D A c root vs ns wc {s with next:=s.next+1,idx:=s.idx.set v (s.next+1),low:=s.low.set v (s.next+1),stk:=s.stk++[v]} sv1 zv) (hF:TF y sv zv w wc sv1 zv) (hA:ABox y D wc sv1 zv bA v)
 {u11 u12 u13 u14 u15 u16 u17 u18 u19 u20 u21 u22 u23 u24 u25 u26 u27 u28 u29 u30 u31 u32 u33 u34 u35 u36 u37 u38 u39 u40 u41 u42 u43 u44 u45 u46 u47 u48 u49 u50 u51 u52 u53 u54 u55 u56 u57 u58 u59 u60 u61 u62 u63 u64 u65 u66 u67 u68 u69 u70 u71 u72 u73 u74 u75 u76 u77 u78 u79 u80 u81 u82 u83 u84 u85 u86 u87 u88 u89 u90 u91 u92 u93 u94 u95 u96 u97 u98 u99 u100 u101 u102:Value}:
 Code.wp prog (tlv 4 (f85.body.getD .skip)) (bodyPost prog f85 (TPost y B D A c root vs ns w sv zv (tvisit (Gr.succ ns) (f+1) s v))) {tmps:=List.toArray (.int .i64 v::.pointer (some ⟨y.bN,0,none⟩)::.pointer (some ⟨y.bI,0,none⟩)::.pointer (some ⟨y.bL,0,none⟩)::.pointer (some ⟨y.bS,0,none⟩)::.pointer (some ⟨y.bO,0,none⟩)::.pointer (some ⟨y.bV,0,none⟩)::.pointer (some ⟨y.bG,0,none⟩)::.pointer (some ⟨y.bZ,0,none⟩)::.pointer (some ⟨y.bC,0,none⟩)::.pointer (some ⟨bA,0,none⟩)::u11::u12::u13::u14::u15::u16::u17::u18::u19::u20::u21::u22::u23::u24::u25::u26::u27::u28::u29::u30::u31::u32::u33::u34::u35::u36::u37::u38::u39::u40::u41::u42::u43::u44::u45::u46::u47::u48::u49::u50::u51::u52::u53::u54::u55::u56::u57::u58::u59::u60::u61::u62::u63::u64::u65::u66::u67::u68::u69::u70::u71::u72::u73::u74::u75::u76::u77::u78::u79::u80::u81::u82::u83::u84::u85::u86::u87::u88::u89::u90::u91::u92::u93::u94::u95::u96::u97::u98::u99::u100::u101::u102::[]),defers:=[]} wc:=by
 generalize hc0:tlv 4 (f85.body.getD .skip)=c0;simp only[tlv,f85,Option.getD_some]at hc0;subst hc0;have hvI:(v:Int)<(ns.length:Int):=by omega
 have HNEXT:=hid (fun(k:Nat) (hk:k<(Gr.succ ns v).length)=>zld (y:=y) (B:=B) (D:=D) (A:=A) (c:=c) (root:=root) (vs:=vs) hr hl hI hv hv0 hg hu ih hk);have HPRE:=hid (zdg hr.succ f s v hI hv hv0 hg hu);have HI:=hid hI;have HOK:=hid hT.ok;have HRES:Hid (tvisit (Gr.succ ns) (f+1) s v=tfin ((Gr.succ ns v).foldl (tstep (tvisit (Gr.succ ns) f) v) (s.push v)) v):=hid rfl;obtain⟨st,hst⟩:∃st:Gr.TS->Nat->Gr.TS,tstep (tvisit (Gr.succ ns) f) v=st:=⟨_,rfl⟩
 rw[hst]at HNEXT HPRE HRES;have o0:wc.cell? ⟨y.bO,0,none⟩=some (.slice (some ⟨y.rO,0,none⟩) ns.length ns.length):=hT.xO.cell 0;have a0:wc.cell? ⟨bA,0,none⟩=some (.int .i64 (v:Int)):=hA.b.cell 0;have of:∀i,wc.frozen? ⟨y.rO,i,none⟩=false:=hT.rO.frozen;have ov:wc.cell? ⟨y.rO,v,none⟩=some (.bool (s.onn v)):=by rw[hT.rO.cell,zau (by show v<s.on.length;rw[HI.out.lo];exact hv)];rfl
 have HT:=hid hT;have HF:=hid hF;have HA:=hid hA;clear hT hF hA hI hg hu ih hst;go_upto_region 6 with fail;obtain⟨w4,hw4⟩:=ex (wc.setCell ⟨y.rO,v,none⟩ (.bool true))
 have f4:TF y sv1 zv wc w4 sv1 zv:=by rw[<-hw4];exact(TF.refl _ _ _ _).set y.rO v (by simp) _
 have h4:TAt y B D A c root vs ns w4 (s.push v) sv1 zv:=by rw[<-hw4];exact HT.out.setO v true
 have hA4:=HA.out.kept HOK.out f4;have HF4:=hid (HF.out.trans f4);(try rw[hw4]);clear hw4 o0 a0 of ov HT HF HA f4;have hnm:ns[v]∈ns:=List.getElem_mem hv;obtain⟨hkl,hil⟩:=hks _ hnm;have hsc:Gr.succ ns v=ns[v].keys++ns[v].items:=by unfold Gr.succ;rw[List.getElem?_eq_getElem hv]
 obtain⟨ad,k,i,rfl,hN⟩:=h4.at_.node hv;obtain⟨ka,kn,kc⟩:=k;obtain⟨ia,inn,ic⟩:=i;obtain⟨n,hn⟩:=ex (ns[v])
 rw[hn]at hN hkl hil hsc;obtain rfl:kn=n.keys.length:=hN.kn;obtain rfl:inn=n.items.length:=hN.inn;have HSC:=hid hsc;have x3:=hN.c3;have g0:w4.cell? ⟨y.bG,0,none⟩=some (.slice (some ad) ns.length c):=h4.xG.cell 0;have a0:w4.cell? ⟨bA,0,none⟩=some (.int .i64 (v:Int)):=hA4.b.cell 0;have HKR:=hid hN.keys;have HIR:Hid (RowAt intL w4 B ia n.items/\w4.cell? {block:=(ad.add (v*5)).block,off:=(ad.add (v*5)).off+4}=some (.slice ia n.items.length ic)/\(ad.add (v*5)).block<B):=hid ⟨hN.items,hN.c4,hN.lt⟩;have H4:=hid h4;have HA4:=hid hA4;clear hN h4 hA4 hn hnm hsc;go_upto_region 7 with fail;clear x3 g0 a0;go_loopw [43] (fun s43 wr=>∃(k:Nat) (sk zk:Value),k<=n.keys.length/\s43=.int .i64 k/\Hid (TAt y B D (some ad) c root vs ns wr (((Gr.succ ns v).take k).foldl st (s.push v)) sk zk/\TF y sv1 zv w4 wr sk zk/\ABox y D wr sk zk bA v)) (fun s43 _=>n.keys.length-(intOf s43).toNat)
 case atStart=>exact⟨0,sv1,zv,by omega,rfl,hid ⟨by simpa using H4.out,TF.refl _ _ _ _,HA4.out⟩⟩
 case round=>
  obtain⟨k,sk,zk,hk,rfl,HW⟩:=hrel;by_cases hlk:k<n.keys.length
  ·have hlkI:(k:Int)<(n.keys.length:Int):=by omega
   have hks2:k<(Gr.succ ns v).length:=by rw[HSC.out,List.length_append];omega
   have hxe:(Gr.succ ns v)[k]=n.keys[k]:=by simp only[HSC.out];exact List.getElem_append_left hlk
   obtain⟨x,hx⟩:=ex (n.keys[k])
   have hC:=HNEXT.out _ hks2 wr sk zk bA HW.out.1 HW.out.2.2;rw[hxe,hx]at hC;obtain⟨ad2,rfl,_,y0⟩:=zag (HKR.out.below (H4.out.tfBelow HW.out.2.1)) hlk;rw[hx]at y0;have HC:=hid hC;clear hC hx hxe hks2;go_wp2_with fail;refine HC.out.mono ?_;rintro e w5 ⟨rfl,sv5,zv5,h5,f5⟩;have HN2:Hid (TAt y B D (some ad) c root vs ns w5 (((Gr.succ ns v).take (k+1)).foldl st (s.push v)) sv5 zv5/\TF y sv1 zv w4 w5 sv5 zv5/\ABox y D w5 sv5 zv5 bA v):=hid ⟨h5,HW.out.2.1.trans f5,HW.out.2.2.kept HOK.out f5⟩;clear h5 f5;go_wp2;go_roundw
   case rel=>exact⟨k+1,sv5,zv5,by omega,by go_num,HN2⟩
   case measure=>simp[intOf];omega
  ·have hlkI:¬((k:Int)<(n.keys.length:Int)):=by omega
   have HW1:Hid (TAt y B D (some ad) c root vs ns wr (((Gr.succ ns v).take (n.keys.length+0)).foldl st (s.push v)) sk zk/\TF y sv1 zv w4 wr sk zk/\ABox y D wr sk zk bA v):=hid (by
    have:=HW.out;rw[show k=n.keys.length+0 from by omega]at this;exact this)
   have g0:wr.cell? ⟨y.bG,0,none⟩=some (.slice (some ad) ns.length c):=HW1.out.1.xG.cell 0;have a0:wr.cell? ⟨bA,0,none⟩=some (.int .i64 (v:Int)):=HW1.out.2.2.b.cell 0;have x4:wr.cell? {block:=(ad.add (v*5)).block,off:=(ad.add (v*5)).off+4}=some (.slice ia n.items.length ic):=by
    rw[(H4.out.tfBelow HW1.out.2.1).cell (by exact HIR.out.2.2)];exact HIR.out.2.1
   clear HW hk hlk HKR;go_upto_region 12 with fail;clear g0 a0 x4 hlkI;go_loopw [58] (fun s58 wr=>∃(k:Nat) (sk zk:Value),k<=n.items.length/\s58=.int .i64 k/\Hid (TAt y B D (some ad) c root vs ns wr (((Gr.succ ns v).take (n.keys.length+k)).foldl st (s.push v)) sk zk/\TF y sv1 zv w4 wr sk zk/\ABox y D wr sk zk bA v)) (fun s58 _=>n.items.length-(intOf s58).toNat)
   case atStart=>exact⟨0,sk,zk,by omega,rfl,HW1⟩
   case round=>
    clear HW1;obtain⟨k,sk,zk,hk,rfl,HW⟩:=hrel;by_cases hlk:k<n.items.length
    ·have hlkI:(k:Int)<(n.items.length:Int):=by omega
     have hks2:n.keys.length+k<(Gr.succ ns v).length:=by rw[HSC.out,List.length_append];omega
     have hxe:(Gr.succ ns v)[n.keys.length+k]=n.items[k]:=by simp only[HSC.out];rw[List.getElem_append_right (by omega)];congr 1;omega
     obtain⟨x,hx⟩:=ex (n.items[k])
     have hC:=HNEXT.out _ hks2 wr sk zk bA HW.out.1 HW.out.2.2;rw[hxe,hx]at hC;obtain⟨ad2,rfl,_,y0⟩:=zag (HIR.out.1.below (H4.out.tfBelow HW.out.2.1)) hlk;rw[hx]at y0;have HC:=hid hC;clear hC hx hxe hks2;go_wp2_with fail;refine HC.out.mono ?_;rintro e w5 ⟨rfl,sv5,zv5,h5,f5⟩;have HN2:Hid (TAt y B D (some ad) c root vs ns w5 (((Gr.succ ns v).take (n.keys.length+(k+1))).foldl st (s.push v)) sv5 zv5/\TF y sv1 zv w4 w5 sv5 zv5/\ABox y D w5 sv5 zv5 bA v):=hid ⟨h5,HW.out.2.1.trans f5,HW.out.2.2.kept HOK.out f5⟩;clear h5 f5;go_wp2;go_roundw
     case rel=>exact⟨k+1,sv5,zv5,by omega,by go_num,HN2⟩
     case measure=>simp[intOf];omega
    ·have hlkI:¬((k:Int)<(n.items.length:Int)):=by omega
     have hkl2:(Gr.succ ns v).length=n.keys.length+n.items.length:=by rw[HSC.out,List.length_append]
     obtain⟨q,hq⟩:=ex ((Gr.succ ns v).foldl st (s.push v))
     have HQ:Hid (TAt y B D (some ad) c root vs ns wr q sk zk/\TF y sv1 zv w4 wr sk zk/\ABox y D wr sk zk bA v):=hid (by
      have:=HW.out;rw[show n.keys.length+k=(Gr.succ ns v).length from by omega,List.take_length,hq]at this;exact this)
     have HLOOP:Hid (∃T,Gr.Loop (Gr.succ ns) ns.length G s q v T (Gr.succ ns v)):=hid (by
      obtain⟨T,hT,_⟩:=HPRE.out (Gr.succ ns v).length (Nat.le_refl _);rw[List.take_length,hq]at hT;exact⟨T,hT⟩)
     rw[hq]at HRES;clear hq hkl2 HW hk hlk HNEXT HPRE;have HFW:Hid (TF y sv zv w wr sk zk):=hid (HF4.out.trans HQ.out.2.1);have HB:Hid (q.low.length=ns.length/\q.idx.length=ns.length/\q.ix v<=1073741823/\q.lw v<=1073741823/\q.on.length=ns.length/\q.inn.length=ns.length/\q.stk.length<=1073741823/\q.sizes.length<=1073741823):=hid (by
      obtain⟨T,hT⟩:=HLOOP.out;have h1:=hT.inv.nx v;have h2:=hT.inv.bn;have h3:=hT.lwv;have h4:=hT.inv.bz;exact⟨hT.inv.ll,hT.inv.li,by omega,by omega,hT.inv.lo,hT.inv.lc,by omega,by omega⟩)
     obtain⟨qi,hqi⟩:=ex (q.ix v)
     obtain⟨ql,hql⟩:=ex (q.lw v)
     have i0:wr.cell? ⟨y.bI,0,none⟩=some (.slice (some ⟨y.rI,0,none⟩) ns.length ns.length):=HQ.out.1.xI.cell 0;have l0:wr.cell? ⟨y.bL,0,none⟩=some (.slice (some ⟨y.rL,0,none⟩) ns.length ns.length):=HQ.out.1.xL.cell 0;have a0:wr.cell? ⟨bA,0,none⟩=some (.int .i64 (v:Int)):=HQ.out.2.2.b.cell 0;have iv:wr.cell? ⟨y.rI,v,none⟩=some (.int .i64 (qi:Int)):=by rw[HQ.out.1.rI.cell,zad (by rw[HB.out.2.1];exact hv),<-hqi];rfl
     have lv:wr.cell? ⟨y.rL,v,none⟩=some (.int .i64 (ql:Int)):=by rw[HQ.out.1.rL.cell,zad (by rw[HB.out.1];exact hv),<-hql];rfl
     by_cases he:ql=qi
     ·subst he;have HFIN:Hid (tvisit (Gr.succ ns) (f+1) s v=q.close v):=hid (by rw[HRES.out];unfold tfin;rw[if_pos (by rw[hqi,hql])]);clear hqi hql HRES;go_upto_region 16 with fail;go_quiet (fail);go_upto_region 18 with fail;obtain⟨T,hT⟩:=HLOOP.out;have hvT:v∉T:=by
       have h1:=zdf hT.inv.ord;rw[hT.stk,List.nodup_append]at h1;exact(List.nodup_cons.1 h1.2.1).1
      have HSTK:=hid hT.stk;have HDR:=hid (zn8 hT.stk);have HCL:=hid (zn7 hT.stk hvT);have HLT:Hid (∀x∈v::T,x<ns.length):=hid (fun x hx=>(hT.inv.stv x (by rw[hT.stk];exact List.mem_append_right _ hx)).1);have HVT:=hid hvT;have hTl:T.length<=1073741823:=by have:=HB.out.2.2.2.2.2.2.1;rw[hT.stk]at this;simp at this;omega
      obtain⟨Az,cz,hzk,_⟩:=HQ.out.1.siz.form;subst hzk;clear hT hvT i0 l0 a0 iv lv;go_loopw [16] (fun s16 wp=>∃(k:Nat) (sk2:Value),k<=T.length/\s16=.int .i64 k/\Hid (TAt y B D (some ad) c root vs ns wp ((T.reverse.take k).foldl Gr.TS.drop1 q) sk2 (.slice Az q.sizes.length cz)/\TF y sv zv w wp sk2 (.slice Az q.sizes.length cz)/\ABox y D wp sk2 (.slice Az q.sizes.length cz) bA v)) (fun s16 _=>T.length+1-(intOf s16).toNat)
      case atStart=>exact⟨0,sk,by omega,rfl,hid ⟨by simpa using HQ.out.1.drewN _,HFW.out.drewN _,HQ.out.2.2.kept HOK.out ((TF.refl _ _ _ _).drewN _)⟩⟩
      case round=>
       obtain⟨k,sk2,hk,rfl,HW⟩:=hrel;obtain⟨d1,d2,d3,d4⟩:=HDR.out k hk;obtain⟨L,x,hLx,hxv,hxl⟩:∃L x,s.stk++v::T.take (T.length-k)=L++[x]/\((k=T.length/\x=v)\/(k<T.length/\x≠v/\T.reverse.take (k+1)=T.reverse.take k++[x]))/\x<ns.length:=by
        by_cases hkT:k<T.length
        ·refine⟨s.stk++v::T.take (T.length-(k+1)),T[T.length-(k+1)]'(by omega),?_,.inr ⟨hkT,fun e=>HVT.out (e▸List.getElem_mem _),?_⟩,HLT.out _ (.tail _ (List.getElem_mem _))⟩
         ·have:=List.take_succ_eq_append_getElem (l:=T) (i:=T.length-(k+1)) (by omega);rw[show T.length-(k+1)+1=T.length-k from by omega]at this;rw[this];simp
         ·have hkl:k<T.reverse.length:=by simpa using hkT
          rw[List.take_succ_eq_append_getElem hkl]
          congr 2
          rw[List.getElem_reverse]
          congr 1
          omega
        ·refine⟨s.stk,v,?_,.inl ⟨by omega,rfl⟩,hv⟩;rw[show T.length-k=0 from by omega];simp
       rw[hLx]at d1;obtain⟨p,hp⟩:=ex ((T.reverse.take k).foldl Gr.TS.drop1 q)
       rw[hp]at d1 d2 d3 d4;have hTp:TAt y B D (some ad) c root vs ns wr p sk2 (.slice Az q.sizes.length cz):=by have:=HW.out.1;rw[hp]at this;exact this
       have hown:=hTp.stk;rw[d1]at hown;obtain⟨g,cap,hsk,hcap⟩:=hown.shape (by simp);rw[List.length_append,List.length_cons,List.length_nil]at hsk hcap;obtain⟨n1,hn1⟩:=ex L.length
       rw[hn1]at hsk hcap;obtain⟨A',c',hf1,hf2⟩:=hown.form;have hA':A'=some ⟨g,0,none⟩:=by rw[hsk]at hf1;injection hf1 with e1 _ _;exact e1.symm
       subst hA';obtain⟨ad2,e2,_,y0⟩:=zag (k:=n1) hf2 (by simp;omega);injection e2 with e2
       subst e2;have hgx:(L++[x])[n1]'(by simp;omega)=x:=by subst hn1;simp
       rw[hgx]at y0;have y1:wr.cell? ⟨g,n1,none⟩=some (.int .i64 (x:Int)):=by
        have e:(⟨g,0,none⟩:Addr).add n1=⟨g,n1,none⟩:=by unfold Addr.add;split<;>simp_all
        rwa[e]at y0
       have s0:wr.cell? ⟨y.bS,0,none⟩=some (.slice (some ⟨g,0,none⟩) (n1+1) cap):=by rw[hTp.bS.cell 0];show some sk2=_;rw[hsk]
       have sf:∀i,wr.frozen? ⟨y.bS,i,none⟩=false:=hTp.bS.frozen;have t1:((n1:Int)+1-1)=(n1:Int):=by omega
       have hsl:=fun W=>zoe g (n1+1) cap n1 (by omega) W
       have hcapI:(n1:Int)+1<=(cap:Int):=by omega
       have hnb:n1<=1073741823:=by
        have h1:=HB.out.2.2.2.2.2.2.1;have h2:(s.stk++v::T.take (T.length-k)).length=(L++[x]).length:=by rw[hLx]
        rw[HSTK.out]at h1;simp at h1 h2;omega
       have hxI:(x:Int)<(ns.length:Int):=by omega
       have hob:OwnRow intL wr D 3 (.slice (some ⟨g,0,none⟩) n1 cap) L:=by
        have h1:OwnRow intL wr D 3 (.slice (some ⟨g,0,none⟩) (n1+1) cap) (L++[x]):=by rw[<-hsk];exact hown
        have:=h1.drop1;rwa[hn1]at this
       have hev:(Value.slice (some ⟨g,0,none⟩) n1 cap).ownBlock=sk2.ownBlock:=by rw[hsk];rfl
       have hap:∀k,(Value.slice (some ⟨g,0,none⟩) n1 cap).ownBlock=some k->(Value.slice Az q.sizes.length cz).ownBlock≠some k:=fun k e=>hTp.apart k (hev▸e)
       have HTP:=hid hTp;have HOB:=hid hob;have HEV:=hid hev;have HAP:=hid hap;have HD:Hid (p.sizes=q.sizes/\p.on.length=ns.length/\p.inn.length=ns.length/\p.stk=L++[x]):=hid ⟨d2,d3.trans HB.out.2.2.2.2.1,d4.trans HB.out.2.2.2.2.2.1,d1⟩;have HPK:=hid hp;have HXV:=hid hxv;clear hob hev hap hTp hown hf1 hf2 y0 hgx hsk hn1 d1 d2 d3 d4 hp hLx hxv;go_upto_region 20 with fail;obtain⟨w5,hw5⟩:=ex (wr.setCell ⟨y.bS,0,none⟩ (.slice (some ⟨g,0,none⟩) n1 cap))
       have h5:TAt y B D (some ad) c root vs ns w5 {p with stk:=L} (.slice (some ⟨g,0,none⟩) n1 cap) (.slice Az q.sizes.length cz):=by rw[<-hw5];exact HTP.out.setS HOB.out HAP.out
       have f5:TF y sk2 (.slice Az q.sizes.length cz) wr w5 (.slice (some ⟨g,0,none⟩) n1 cap) (.slice Az q.sizes.length cz):=by rw[<-hw5];exact((TF.refl _ _ _ _).set y.bS 0 (by simp) _).reval HEV.out
       (try rw[hw5]);have o0:w5.cell? ⟨y.bO,0,none⟩=some (.slice (some ⟨y.rO,0,none⟩) ns.length ns.length):=h5.xO.cell 0;have ov:w5.cell? ⟨y.rO,x,none⟩=some (.bool (p.on.getD x false)):=by rw[h5.rO.cell,zau (by rw[HD.out.2.1];exact hxl)]
       have of:∀i,w5.frozen? ⟨y.rO,i,none⟩=false:=h5.rO.frozen;have H5:=hid h5;have F5:=hid f5;clear hw5 h5 f5 s0 sf y1 hsl HTP HOB HAP HEV;go_upto_region 21 with fail;obtain⟨w6,hw6⟩:=ex (w5.setCell ⟨y.rO,x,none⟩ (.bool false))
       have h6:TAt y B D (some ad) c root vs ns w6 {p with stk:=L,on:=p.on.set x false} (.slice (some ⟨g,0,none⟩) n1 cap) (.slice Az q.sizes.length cz):=by rw[<-hw6];exact H5.out.setO x false
       have f6:TF y sk2 (.slice Az q.sizes.length cz) wr w6 (.slice (some ⟨g,0,none⟩) n1 cap) (.slice Az q.sizes.length cz):=by rw[<-hw6];exact F5.out.set y.rO x (by simp) _
       (try rw[hw6]);have c0:w6.cell? ⟨y.bC,0,none⟩=some (.slice (some ⟨y.rC,0,none⟩) ns.length ns.length):=h6.xC.cell 0;have z0:w6.cell? ⟨y.bZ,0,none⟩=some (.slice Az q.sizes.length cz):=h6.bZ.cell 0;have cv:w6.cell? ⟨y.rC,x,none⟩=some (.int .i64 (p.inn.getD x (-1))):=by rw[h6.rC.cell,zbm (by rw[HD.out.2.2.1];exact hxl)]
       have cf:∀i,w6.frozen? ⟨y.rC,i,none⟩=false:=h6.rC.frozen;have H6:=hid h6;have F6:=hid f6;clear hw6 h6 f6 o0 ov of H5 F5;go_upto_region 22 with fail;obtain⟨w7,hw7⟩:=ex (w6.setCell ⟨y.rC,x,none⟩ (.int .i64 (q.sizes.length:Int)))
       have h7:TAt y B D (some ad) c root vs ns w7 (p.drop1 x) (.slice (some ⟨g,0,none⟩) n1 cap) (.slice Az q.sizes.length cz):=by
        have:=H6.out.setC x (q.sizes.length:Int);rw[hw7]at this;have e:p.drop1 x={p with stk:=L,on:=p.on.set x false,inn:=p.inn.set x (q.sizes.length:Int)}:=by
         unfold Gr.TS.drop1;rw[HD.out.2.2.2,HD.out.1,List.dropLast_concat]
        rw[e];exact this
       have f7:TF y sk2 (.slice Az q.sizes.length cz) wr w7 (.slice (some ⟨g,0,none⟩) n1 cap) (.slice Az q.sizes.length cz):=by rw[<-hw7];exact F6.out.set y.rC x (by simp) _
       (try rw[hw7]);have hA7:=HW.out.2.2.kept HOK.out f7;have a0:w7.cell? ⟨bA,0,none⟩=some (.int .i64 (v:Int)):=hA7.b.cell 0;have HA7:=hid hA7;have H7:=hid h7;have F7:=hid f7;clear hw7 h7 f7 c0 z0 cv cf H6 F6 hA7;by_cases hkT:k<T.length
       ·have hx2:=HXV.out.resolve_left (fun e=>by omega);have hxvI:¬((x:Int)=(v:Int)):=by have:=hx2.2.1;omega
        have hxvb:((x:Int)==(v:Int))=false:=by simpa using hxvI
        have HN2:Hid (TAt y B D (some ad) c root vs ns w7 ((T.reverse.take (k+1)).foldl Gr.TS.drop1 q) (.slice (some ⟨g,0,none⟩) n1 cap) (.slice Az q.sizes.length cz)/\TF y sv zv w w7 (.slice (some ⟨g,0,none⟩) n1 cap) (.slice Az q.sizes.length cz)/\ABox y D w7 (.slice (some ⟨g,0,none⟩) n1 cap) (.slice Az q.sizes.length cz) bA v):=hid ⟨by
         rw[hx2.2.2,List.foldl_append,HPK.out];exact H7.out,HW.out.2.1.trans F7.out,HA7.out⟩
        clear hx2 HW;go_wp2;go_roundw
        case rel=>exact⟨k+1,_,by omega,by go_num,HN2⟩
        case measure=>simp[intOf];omega
       ·have hx2:=HXV.out.resolve_right (fun e=>hkT e.1);obtain⟨hkT2,hxe⟩:=hx2;have hxvI:(x:Int)=(v:Int):=by omega
        have hxvb:((x:Int)==(v:Int))=true:=by simpa using hxvI
        have HX:Hid (q.close v={(p.drop1 x)with sizes:=q.sizes++[k+1]}):=hid (by
         rw[HCL.out,<-HPK.out,hxe,hkT2,List.take_of_length_le (by simp)])
        have HFX:=hid (HW.out.2.1.trans F7.out);have HO:Hid (OwnRow intL w7 D 3 (.slice Az q.sizes.length cz) q.sizes):=hid (by have:=H7.out.siz;rw[show(p.drop1 x).sizes=q.sizes from HD.out.1]at this;exact this);have z0:w7.cell? ⟨y.bZ,0,none⟩=some (.slice Az q.sizes.length cz):=H7.out.bZ.cell 0;have e0:=World.new_ne w7 _ z0;have hDw:=H7.out.hd;have hqs:q.sizes.length<=1073741823:=HB.out.2.2.2.2.2.2.2;clear hxe hkT HW hkT2 HA7;go_upto_region 24 with fail;go_wp2_with (at_builtin;go_must (refine zac _ rfl (.tmp 99) (.tmp 101) 33 3 8 rfl intT D (.slice Az q.sizes.length cz) q.sizes rfl (HO.out.alloc _) _ _ 1 [k+1] rfl (RowAt.lit1 _ _ rfl _ ?_) ?_ ?_ ?_))
        any_goals (first|rfl|omega| (simp;omega)| (rw[World.size_alloc];omega))
        intro v' w8 hown hg hat;have hTa:=H7.out.alloc (.cells #[.int .i64 ((k:Int)+1)] 3);have hb3:Blk w8 y.bZ 33 _:=hTa.bZ.grown hg (fun e=>zbk hTa.siz hTa.bZ (by decide) e.symm);have pc3:w8.cell? ⟨y.bZ,0,none⟩=some (.slice Az q.sizes.length cz):=hb3.cell 0;have pf3:∀i,w8.frozen? ⟨y.bZ,i,none⟩=false:=hb3.frozen;obtain⟨g3,cap3,hv3,_⟩:=hown.shape (by simp);obtain⟨n3,hn3⟩:=ex ((q.sizes++[k+1]).length)
        rw[hn3]at hv3;subst hv3;have HTA:=hid hTa;have HOW:=hid hown;have HG:=hid hg;have HAT:=hid hat;clear hTa hown hg hat hb3 hn3;go_wp2_with fail;go_end0;have hat2:(Value.slice (some ⟨g3,0,none⟩) n3 cap3).ownBlock=(Value.slice Az q.sizes.length cz).ownBlock\/(Value.slice (some ⟨g3,0,none⟩) n3 cap3).ownBlock=some (w7.alloc (.cells #[.int .i64 ((k:Int)+1)] 3)).heap.size:=by rw[World.size_alloc];exact HAT.out
        have f8:=(HFX.out.alloc (.cells #[.int .i64 ((k:Int)+1)] 3)).trans (TF.grownZ HTA.out HG.out hat2);have h8:=HTA.out.grownZ HOW.out HG.out hat2;rw[HFIN.out,HX.out];exact⟨rfl,_,_,h8,f8⟩
     ·have hne:¬((ql:Int)=(qi:Int)):=by omega
      have hneb:((ql:Int)==(qi:Int))=false:=by simpa using hne
      have HFIN:Hid (tvisit (Gr.succ ns) (f+1) s v=q):=hid (by rw[HRES.out];unfold tfin;rw[if_neg (by rw[hqi,hql];exact he)]);clear hqi hql HRES he;go_upto_region 16 with fail;go_quiet (fail);go_wp2_with fail;refine bodyPost_ret (v:=.tuple #[]) (by simp[results,results85,go_sem]) rfl ?_;rw[HFIN.out];exact⟨rfl,sk,zk,HQ.out.1.drewN _,HFW.out.drewN _⟩
end
end Go.Proofs.YtoigpackhninoaaGreatDoor

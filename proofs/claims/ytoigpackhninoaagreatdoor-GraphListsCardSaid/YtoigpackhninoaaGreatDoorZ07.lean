import Derived.Test.YtoigpackhninoaaGreatDoorZ06
import Derived.Test.YtoigpackhninoaaGreatDoorGrInsP4
namespace Go.Proofs.YtoigpackhninoaaGreatDoor
open Gr
open _root_.Go.Proofs.Tryz
open _root_.Go.Lib (hid)
set_option maxRecDepth 100000
set_option maxHeartbeats 16000000
open Go.RowKit
def tlv:Nat->Code->Code
 | 0,c=>c
 |n+1,.seq _ b=>tlv n b
 |_+1,c=>c
section
variable {y:TL} {B D:Nat} {A:Option Addr} {c:Nat} {root:Int} {vs:List NV} {ns:List Gr.Nd}
theorem zsq (w:World) (s:Gr.TS) (vis:Gr.TS->Nat->Gr.TS) (sv zv:Value) (bA v x:Nat) (h:TAt y B D A c root vs ns w s sv zv) (hA:ABox y D w sv zv bA v) (hl:ns.length<=1073741823) (hv:v<ns.length) (hx:x<ns.length)
 (li:s.idx.length=ns.length) (ll:s.low.length=ns.length) (lo:s.on.length=ns.length) (hb1:s.lw v<=1073741824) (hb2:s.ix x<=1073741824)
 (hnew:s.ix x=0->(vis s x).low.length=ns.length/\(vis s x).lw v<=1073741824/\(vis s x).lw x<=1073741824/\Calls prog 85 (y.args (.int .i64 x)) w (TPost y B D A c root vs ns w sv zv (vis s x))):
 Calls prog 86 #[.int .i64 x,.pointer (some ⟨y.bI,0,none⟩),.pointer (some ⟨y.bV,0,none⟩),.pointer (some ⟨y.bL,0,none⟩),.pointer (some ⟨bA,0,none⟩),.pointer (some ⟨y.bO,0,none⟩)] w (TPost y B D A c root vs ns w sv zv (tstep vis v s x)):=by
 unfold tstep;by_cases hi:s.ix x=0
 ·rw[if_pos hi];obtain⟨a,e,b,d⟩:=hnew hi;exact zsp w s (vis s x) sv zv bA v x h hA hl hv hx li a hi e b d
 ·rw[if_neg hi];by_cases hon:s.onn x=true
  ·rw[if_pos hon];exact zvk w s sv zv bA v x h hA hl hv hx li ll lo hi hon hb1 hb2
  ·rw[if_neg hon];exact zso w s sv zv bA x h hl hx li lo hi (by simpa using hon) hb2
theorem zo9 (hr:Refs ns) (hl:ns.length<=1073741823) {f:Nat} {s0:Gr.TS} {v:Nat} {G:Nat->Prop} (hI:Gr.Inv (Gr.succ ns) ns.length G s0) (hv:v<ns.length) (hv0:s0.ix v=0) (hg:∀g,G g->Gr.Reach (Gr.succ ns) g v) (hu:unv ns.length s0<=f+1)
 (ih:∀(s:Gr.TS) (v:Nat) (G:Nat->Prop) (w:World) (sv zv:Value),TAt y B D A c root vs ns w s sv zv->Gr.Inv (Gr.succ ns) ns.length G s->v<ns.length->s.ix v=0->(∀g,G g->Gr.Reach (Gr.succ ns) g v)->unv ns.length s<=f->
   Calls prog 85 (y.args (.int .i64 v)) w (TPost y B D A c root vs ns w sv zv (tvisit (Gr.succ ns) f s v)))
 {k:Nat} (hk:k<(Gr.succ ns v).length) (w:World) (sv zv:Value) (bA:Nat) (h:TAt y B D A c root vs ns w (((Gr.succ ns v).take k).foldl (tstep (tvisit (Gr.succ ns) f) v) (s0.push v)) sv zv) (hA:ABox y D w sv zv bA v):
 Calls prog 86 #[.int .i64 ((Gr.succ ns v)[k]:Nat),.pointer (some ⟨y.bI,0,none⟩),.pointer (some ⟨y.bV,0,none⟩),.pointer (some ⟨y.bL,0,none⟩),.pointer (some ⟨bA,0,none⟩),.pointer (some ⟨y.bO,0,none⟩)] w
  (TPost y B D A c root vs ns w sv zv (((Gr.succ ns v).take (k+1)).foldl (tstep (tvisit (Gr.succ ns) f) v) (s0.push v))):=by
 obtain⟨T,a,e⟩:=zd6 hr.succ f s0 v hI hv hv0 hg hu k (by omega);have d:(Gr.succ ns v)[k]∈Gr.succ ns v:=List.getElem_mem hk;have m:=hr.succ v _ d;rw[List.take_succ_eq_append_getElem hk,List.foldl_append];obtain⟨x,n⟩:=ex ((Gr.succ ns v)[k])
 rw[n]at d m ⊢;obtain⟨s,q⟩:=ex (((Gr.succ ns v).take k).foldl (tstep (tvisit (Gr.succ ns) f) v) (s0.push v))
 rw[q]at h a e ⊢;have b:∀u,s.ix u<=1073741823:=fun u=>by have:=a.inv.nx u;have:=a.inv.bn;omega
 refine zsq w s (tvisit (Gr.succ ns) f) sv zv bA v x h hA hl hv m a.inv.li a.inv.ll a.inv.lo (by have:=a.lwv;have:=b v;omega) (by have:=b x;omega) (fun p=>?_);have l:∀g,(G g\/g=v)->Gr.Reach (Gr.succ ns) g x:=by
  rintro g (h1|rfl)
  ·exact(hg g h1).trans (.one d)
  ·exact .one d
 obtain⟨r,i,j⟩:=zga hr.succ f s x (fun u=>G u\/u=v) a.inv m p l e;have o:s.ix v≠0:=by rw[a.ixv];omega
 refine⟨i.ll,?_,?_,ih s x _ w sv zv h a.inv m p l e⟩
 ·rw[j.klw v o];have:=a.lwv;have:=b v;omega
 ·by_cases hm:x∈r
  ·obtain⟨z,_,h1,_⟩:=j.att hm;have:=b z;omega
  ·rw[(j.out hm).2];have:=i.nx x;have:=i.bn;omega
theorem TF.reval {sv zv sv' zv' sv2:Value} {w w':World} (h:TF y sv zv w w' sv' zv') (e:sv2.ownBlock=sv'.ownBlock):TF y sv zv w w' sv2 zv':=⟨h.os,h.tape,h.output,h.size,h.block,fun k a=>h.fs k (e▸a),h.fz⟩
theorem TAt.tfBelow {w w':World} {s:Gr.TS} {sv zv sv' zv':Value} (h:TAt y B D A c root vs ns w s sv zv) (hf:TF y sv zv w w' sv' zv'):Below B w w':=by
 refine⟨hf.os,hf.tape,hf.output,hf.size,fun k hk=>?_⟩;obtain⟨l1,l2,l3,l4,l5,l6,l7,l8⟩:=h.ok.lo;have:=h.hd;exact hf.block k (by omega) (by omega) (by omega) (by omega) (by omega) (by omega) (by omega) (by omega) (h.svD (by omega)) (h.zvD (by omega))
theorem zl0 (hr:Refs ns) (hl:ns.length<=1073741823) (hks:∀n∈ns,n.keys.length<=1073741823/\n.items.length<=1073741823) {f:Nat} {s:Gr.TS} {v:Nat} {G:Nat->Prop} (hI:Gr.Inv (Gr.succ ns) ns.length G s) (hv:v<ns.length) (hv0:s.ix v=0) (hg:∀g,G g->Gr.Reach (Gr.succ ns) g v) (hu:unv ns.length s<=f+1)
 (ih:∀(s:Gr.TS) (v:Nat) (G:Nat->Prop) (w:World) (sv zv:Value),TAt y B D A c root vs ns w s sv zv->Gr.Inv (Gr.succ ns) ns.length G s->v<ns.length->s.ix v=0->(∀g,G g->Gr.Reach (Gr.succ ns) g v)->unv ns.length s<=f->
   Calls prog 85 (y.args (.int .i64 v)) w (TPost y B D A c root vs ns w sv zv (tvisit (Gr.succ ns) f s v)))
 (w wc:World) (sv zv sv1:Value) (bA:Nat) (hT:TAt y B D A c root vs ns wc {s with next:=s.next+1,idx:=s.idx.set v (s.next+1),low:=s.low.set v (s.next+1),stk:=s.stk++[v]} sv1 zv) (hF:TF y sv zv w wc sv1 zv) (hA:ABox y D wc sv1 zv bA v)
 {u11 u12 u13 u14 u15 u16 u17 u18 u19 u20 u21 u22 u23 u24 u25 u26 u27 u28 u29 u30 u31 u32 u33 u34 u35 u36 u37 u38 u39 u40 u41 u42 u43 u44 u45 u46 u47 u48 u49 u50 u51 u52 u53 u54 u55 u56 u57 u58 u59 u60 u61 u62 u63 u64 u65 u66 u67 u68 u69 u70 u71 u72 u73 u74 u75 u76 u77 u78 u79 u80 u81 u82 u83 u84 u85 u86 u87 u88 u89 u90 u91 u92 u93 u94 u95 u96 u97 u98 u99 u100 u101 u102:Value}:
 Code.wp prog (tlv 4 (f85.body.getD .skip)) (bodyPost prog f85 (TPost y B D A c root vs ns w sv zv (tvisit (Gr.succ ns) (f+1) s v))) {tmps:=List.toArray (.int .i64 v::.pointer (some ⟨y.bN,0,none⟩)::.pointer (some ⟨y.bI,0,none⟩)::.pointer (some ⟨y.bL,0,none⟩)::.pointer (some ⟨y.bS,0,none⟩)::.pointer (some ⟨y.bO,0,none⟩)::.pointer (some ⟨y.bV,0,none⟩)::.pointer (some ⟨y.bG,0,none⟩)::.pointer (some ⟨y.bZ,0,none⟩)::.pointer (some ⟨y.bC,0,none⟩)::.pointer (some ⟨bA,0,none⟩)::u11::u12::u13::u14::u15::u16::u17::u18::u19::u20::u21::u22::u23::u24::u25::u26::u27::u28::u29::u30::u31::u32::u33::u34::u35::u36::u37::u38::u39::u40::u41::u42::u43::u44::u45::u46::u47::u48::u49::u50::u51::u52::u53::u54::u55::u56::u57::u58::u59::u60::u61::u62::u63::u64::u65::u66::u67::u68::u69::u70::u71::u72::u73::u74::u75::u76::u77::u78::u79::u80::u81::u82::u83::u84::u85::u86::u87::u88::u89::u90::u91::u92::u93::u94::u95::u96::u97::u98::u99::u100::u101::u102::[]),defers:=[]} wc:=by
 generalize hc0:tlv 4 (f85.body.getD .skip)=c0;simp only[tlv,f85,Option.getD_some]at hc0;subst hc0;have hvI:(v:Int)<(ns.length:Int):=by omega
 have u:=hid (fun(k:Nat) (hk:k<(Gr.succ ns v).length)=>zo9 (y:=y) (B:=B) (D:=D) (A:=A) (c:=c) (root:=root) (vs:=vs) hr hl hI hv hv0 hg hu ih hk);have O:=hid (zd6 hr.succ f s v hI hv hv0 hg hu);have HI:=hid hI;have N:=hid hT.ok;have r:Hid (tvisit (Gr.succ ns) (f+1) s v=tfin ((Gr.succ ns v).foldl (tstep (tvisit (Gr.succ ns) f) v) (s.push v)) v):=hid rfl;obtain⟨st,aF⟩:∃st:Gr.TS->Nat->Gr.TS,tstep (tvisit (Gr.succ ns) f) v=st:=⟨_,rfl⟩
 rw[aF]at u O r;have o0:wc.cell? ⟨y.bO,0,none⟩=some (.slice (some ⟨y.rO,0,none⟩) ns.length ns.length):=hT.xO.cell 0;have a0:wc.cell? ⟨bA,0,none⟩=some (.int .i64 (v:Int)):=hA.b.cell 0;have of:∀i,wc.frozen? ⟨y.rO,i,none⟩=false:=hT.rO.frozen;have ov:wc.cell? ⟨y.rO,v,none⟩=some (.bool (s.onn v)):=by rw[hT.rO.cell,zah (by show v<s.on.length;rw[HI.out.lo];exact hv)];rfl
 have HT:=hid hT;have HF:=hid hF;have HA:=hid hA;clear hT hF hA hI hg hu ih aF;go_upto_region 6 with fail;obtain⟨M,ag⟩:=ex (wc.setCell ⟨y.rO,v,none⟩ (.bool true))
 have f4:TF y sv1 zv wc M sv1 zv:=by rw[<-ag];exact(TF.refl _ _ _ _).set y.rO v (by simp) _
 have h4:TAt y B D A c root vs ns M (s.push v) sv1 zv:=by rw[<-ag];exact HT.out.setO v true
 have an:=HA.out.kept N.out f4;have aY:=hid (HF.out.trans f4);(try rw[ag]);clear ag o0 a0 of ov HT HF HA f4;have az:ns[v]∈ns:=List.getElem_mem hv;obtain⟨au,a1⟩:=hks _ az;have aq:Gr.succ ns v=ns[v].keys++ns[v].items:=by unfold Gr.succ;rw[List.getElem?_eq_getElem hv]
 obtain⟨C,k,i,rfl,hN⟩:=h4.at_.node hv;obtain⟨ka,kn,kc⟩:=k;obtain⟨ia,inn,ic⟩:=i;obtain⟨n,hn⟩:=ex (ns[v])
 rw[hn]at hN au a1 aq;obtain rfl:kn=n.keys.length:=hN.kn;obtain rfl:inn=n.items.length:=hN.inn;have Y:=hid aq;have x3:=hN.c3;have g0:M.cell? ⟨y.bG,0,none⟩=some (.slice (some C) ns.length c):=h4.xG.cell 0;have a0:M.cell? ⟨bA,0,none⟩=some (.int .i64 (v:Int)):=an.b.cell 0;have aM:=hid hN.keys;have ao:Hid (RowAt intL M B ia n.items/\M.cell? {block:=(C.add (v*5)).block,off:=(C.add (v*5)).off+4}=some (.slice ia n.items.length ic)/\(C.add (v*5)).block<B):=hid ⟨hN.items,hN.c4,hN.lt⟩;have H4:=hid h4;have aX:=hid an;clear hN h4 an hn az aq;go_upto_region 7 with fail;clear x3 g0 a0;go_loopw [43] (fun s43 wr=>∃(k:Nat) (sk zk:Value),k<=n.keys.length/\s43=.int .i64 k/\Hid (TAt y B D (some C) c root vs ns wr (((Gr.succ ns v).take k).foldl st (s.push v)) sk zk/\TF y sv1 zv M wr sk zk/\ABox y D wr sk zk bA v)) (fun s43 _=>n.keys.length-(intOf s43).toNat)
 case atStart=>exact⟨0,sv1,zv,by omega,rfl,hid ⟨by simpa using H4.out,TF.refl _ _ _ _,aX.out⟩⟩
 case round=>
  obtain⟨k,sk,zk,hk,rfl,o⟩:=hrel;by_cases hlk:k<n.keys.length
  ·have J:(k:Int)<(n.keys.length:Int):=by omega
   have E:k<(Gr.succ ns v).length:=by rw[Y.out,List.length_append];omega
   have F:(Gr.succ ns v)[k]=n.keys[k]:=by simp only[Y.out];exact List.getElem_append_left hlk
   obtain⟨x,hx⟩:=ex (n.keys[k])
   have hC:=u.out _ E wr sk zk bA o.out.1 o.out.2.2;rw[F,hx]at hC;obtain⟨aD,rfl,_,y0⟩:=zae (aM.out.below (H4.out.tfBelow o.out.2.1)) hlk;rw[hx]at y0;have HC:=hid hC;clear hC hx F E;go_wp2_with fail;refine HC.out.mono ?_;rintro e I ⟨rfl,z,t,V,f5⟩;have X:Hid (TAt y B D (some C) c root vs ns I (((Gr.succ ns v).take (k+1)).foldl st (s.push v)) z t/\TF y sv1 zv M I z t/\ABox y D I z t bA v):=hid ⟨V,o.out.2.1.trans f5,o.out.2.2.kept N.out f5⟩;clear V f5;go_wp2;go_roundw
   case rel=>exact⟨k+1,z,t,by omega,by go_num,X⟩
   case measure=>simp[intOf];omega
  ·have J:¬((k:Int)<(n.keys.length:Int)):=by omega
   have Z:Hid (TAt y B D (some C) c root vs ns wr (((Gr.succ ns v).take (n.keys.length+0)).foldl st (s.push v)) sk zk/\TF y sv1 zv M wr sk zk/\ABox y D wr sk zk bA v):=hid (by
    have:=o.out;rw[show k=n.keys.length+0 from by omega]at this;exact this)
   have g0:wr.cell? ⟨y.bG,0,none⟩=some (.slice (some C) ns.length c):=Z.out.1.xG.cell 0;have a0:wr.cell? ⟨bA,0,none⟩=some (.int .i64 (v:Int)):=Z.out.2.2.b.cell 0;have x4:wr.cell? {block:=(C.add (v*5)).block,off:=(C.add (v*5)).off+4}=some (.slice ia n.items.length ic):=by
    rw[(H4.out.tfBelow Z.out.2.1).cell (by exact ao.out.2.2)];exact ao.out.2.1
   clear o hk hlk aM;go_upto_region 12 with fail;clear g0 a0 x4 J;go_loopw [58] (fun s58 wr=>∃(k:Nat) (sk zk:Value),k<=n.items.length/\s58=.int .i64 k/\Hid (TAt y B D (some C) c root vs ns wr (((Gr.succ ns v).take (n.keys.length+k)).foldl st (s.push v)) sk zk/\TF y sv1 zv M wr sk zk/\ABox y D wr sk zk bA v)) (fun s58 _=>n.items.length-(intOf s58).toNat)
   case atStart=>exact⟨0,sk,zk,by omega,rfl,Z⟩
   case round=>
    clear Z;obtain⟨k,sk,zk,hk,rfl,o⟩:=hrel;by_cases hlk:k<n.items.length
    ·have J:(k:Int)<(n.items.length:Int):=by omega
     have E:n.keys.length+k<(Gr.succ ns v).length:=by rw[Y.out,List.length_append];omega
     have F:(Gr.succ ns v)[n.keys.length+k]=n.items[k]:=by simp only[Y.out];rw[List.getElem_append_right (by omega)];congr 1;omega
     obtain⟨x,hx⟩:=ex (n.items[k])
     have hC:=u.out _ E wr sk zk bA o.out.1 o.out.2.2;rw[F,hx]at hC;obtain⟨aD,rfl,_,y0⟩:=zae (ao.out.1.below (H4.out.tfBelow o.out.2.1)) hlk;rw[hx]at y0;have HC:=hid hC;clear hC hx F E;go_wp2_with fail;refine HC.out.mono ?_;rintro e I ⟨rfl,z,t,V,f5⟩;have X:Hid (TAt y B D (some C) c root vs ns I (((Gr.succ ns v).take (n.keys.length+(k+1))).foldl st (s.push v)) z t/\TF y sv1 zv M I z t/\ABox y D I z t bA v):=hid ⟨V,o.out.2.1.trans f5,o.out.2.2.kept N.out f5⟩;clear V f5;go_wp2;go_roundw
     case rel=>exact⟨k+1,z,t,by omega,by go_num,X⟩
     case measure=>simp[intOf];omega
    ·have J:¬((k:Int)<(n.items.length:Int)):=by omega
     have aW:(Gr.succ ns v).length=n.keys.length+n.items.length:=by rw[Y.out,List.length_append]
     obtain⟨q,hq⟩:=ex ((Gr.succ ns v).foldl st (s.push v))
     have HQ:Hid (TAt y B D (some C) c root vs ns wr q sk zk/\TF y sv1 zv M wr sk zk/\ABox y D wr sk zk bA v):=hid (by
      have:=o.out;rw[show n.keys.length+k=(Gr.succ ns v).length from by omega,List.take_length,hq]at this;exact this)
     have S:Hid (∃T,Gr.Loop (Gr.succ ns) ns.length G s q v T (Gr.succ ns v)):=hid (by
      obtain⟨T,hT,_⟩:=O.out (Gr.succ ns v).length (Nat.le_refl _);rw[List.take_length,hq]at hT;exact⟨T,hT⟩)
     rw[hq]at r;clear hq aW o hk hlk u O;have aC:Hid (TF y sv zv w wr sk zk):=hid (aY.out.trans HQ.out.2.1);have HB:Hid (q.low.length=ns.length/\q.idx.length=ns.length/\q.ix v<=1073741823/\q.lw v<=1073741823/\q.on.length=ns.length/\q.inn.length=ns.length/\q.stk.length<=1073741823/\q.sizes.length<=1073741823):=hid (by
      obtain⟨T,hT⟩:=S.out;have h1:=hT.inv.nx v;have h2:=hT.inv.bn;have h3:=hT.lwv;have h4:=hT.inv.bz;exact⟨hT.inv.ll,hT.inv.li,by omega,by omega,hT.inv.lo,hT.inv.lc,by omega,by omega⟩)
     obtain⟨qi,P⟩:=ex (q.ix v)
     obtain⟨ql,U⟩:=ex (q.lw v)
     have i0:wr.cell? ⟨y.bI,0,none⟩=some (.slice (some ⟨y.rI,0,none⟩) ns.length ns.length):=HQ.out.1.xI.cell 0;have l0:wr.cell? ⟨y.bL,0,none⟩=some (.slice (some ⟨y.rL,0,none⟩) ns.length ns.length):=HQ.out.1.xL.cell 0;have a0:wr.cell? ⟨bA,0,none⟩=some (.int .i64 (v:Int)):=HQ.out.2.2.b.cell 0;have iv:wr.cell? ⟨y.rI,v,none⟩=some (.int .i64 (qi:Int)):=by rw[HQ.out.1.rI.cell,zad (by rw[HB.out.2.1];exact hv),<-P];rfl
     have lv:wr.cell? ⟨y.rL,v,none⟩=some (.int .i64 (ql:Int)):=by rw[HQ.out.1.rL.cell,zad (by rw[HB.out.1];exact hv),<-U];rfl
     by_cases he:ql=qi
     ·subst he;have Q:Hid (tvisit (Gr.succ ns) (f+1) s v=q.close v):=hid (by rw[r.out];unfold tfin;rw[if_pos (by rw[P,U])]);clear P U r;go_upto_region 16 with fail;go_quiet (fail);go_upto_region 18 with fail;obtain⟨T,hT⟩:=S.out;have ax:v∉T:=by
       have h1:=zd5 hT.inv.ord;rw[hT.stk,List.nodup_append]at h1;exact(List.nodup_cons.1 h1.2.1).1
      have aV:=hid hT.stk;have a9:=hid (zr0 hT.stk);have a2:=hid (zrz hT.stk ax);have bb:Hid (∀x∈v::T,x<ns.length):=hid (fun x hx=>(hT.inv.stv x (by rw[hT.stk];exact List.mem_append_right _ hx)).1);have a7:=hid ax;have hTl:T.length<=1073741823:=by have:=HB.out.2.2.2.2.2.2.1;rw[hT.stk]at this;simp at this;omega
      obtain⟨j,m,ba,_⟩:=HQ.out.1.siz.form;subst ba;clear hT ax i0 l0 a0 iv lv;go_loopw [16] (fun s16 wp=>∃(k:Nat) (sk2:Value),k<=T.length/\s16=.int .i64 k/\Hid (TAt y B D (some C) c root vs ns wp ((T.reverse.take k).foldl Gr.TS.drop1 q) sk2 (.slice j q.sizes.length m)/\TF y sv zv w wp sk2 (.slice j q.sizes.length m)/\ABox y D wp sk2 (.slice j q.sizes.length m) bA v)) (fun s16 _=>T.length+1-(intOf s16).toNat)
      case atStart=>exact⟨0,sk,by omega,rfl,hid ⟨by simpa using HQ.out.1.drewN _,aC.out.drewN _,HQ.out.2.2.kept N.out ((TF.refl _ _ _ _).drewN _)⟩⟩
      case round=>
       obtain⟨k,sk2,hk,rfl,o⟩:=hrel;obtain⟨d1,d2,d3,d4⟩:=a9.out k hk;obtain⟨L,x,av,aB,aK⟩:∃L x,s.stk++v::T.take (T.length-k)=L++[x]/\((k=T.length/\x=v)\/(k<T.length/\x≠v/\T.reverse.take (k+1)=T.reverse.take k++[x]))/\x<ns.length:=by
        by_cases hkT:k<T.length
        ·refine⟨s.stk++v::T.take (T.length-(k+1)),T[T.length-(k+1)]'(by omega),?_,.inr ⟨hkT,fun e=>a7.out (e▸List.getElem_mem _),?_⟩,bb.out _ (.tail _ (List.getElem_mem _))⟩
         ·have:=List.take_succ_eq_append_getElem (l:=T) (i:=T.length-(k+1)) (by omega);rw[show T.length-(k+1)+1=T.length-k from by omega]at this;rw[this];simp
         ·have au:k<T.reverse.length:=by simpa using hkT
          rw[List.take_succ_eq_append_getElem au]
          congr 2
          rw[List.getElem_reverse]
          congr 1
          omega
        ·refine⟨s.stk,v,?_,.inl ⟨by omega,rfl⟩,hv⟩;rw[show T.length-k=0 from by omega];simp
       rw[av]at d1;obtain⟨p,hp⟩:=ex ((T.reverse.take k).foldl Gr.TS.drop1 q)
       rw[hp]at d1 d2 d3 d4;have K:TAt y B D (some C) c root vs ns wr p sk2 (.slice j q.sizes.length m):=by have:=o.out.1;rw[hp]at this;exact this
       have d:=K.stk;rw[d1]at d;obtain⟨g,a,H,aj⟩:=d.shape (by simp);rw[List.length_append,List.length_cons,List.length_nil]at H aj;obtain⟨h,ah⟩:=ex L.length
       rw[ah]at H aj;obtain⟨A',c',ar,aQ⟩:=d.form;have a4:A'=some ⟨g,0,none⟩:=by rw[H]at ar;injection ar with e1 _ _;exact e1.symm
       subst a4;obtain⟨aD,e2,_,y0⟩:=zae (k:=h) aQ (by simp;omega);injection e2 with e2
       subst e2;have aS:(L++[x])[h]'(by simp;omega)=x:=by subst ah;simp
       rw[aS]at y0;have y1:wr.cell? ⟨g,h,none⟩=some (.int .i64 (x:Int)):=by
        have e:(⟨g,0,none⟩:Addr).add h=⟨g,h,none⟩:=by unfold Addr.add;split<;>simp_all
        rwa[e]at y0
       have s0:wr.cell? ⟨y.bS,0,none⟩=some (.slice (some ⟨g,0,none⟩) (h+1) a):=by rw[K.bS.cell 0];show some sk2=_;rw[H]
       have sf:∀i,wr.frozen? ⟨y.bS,i,none⟩=false:=K.bS.frozen;have t1:((h:Int)+1-1)=(h:Int):=by omega
       have a8:=fun W=>zsn g (h+1) a h (by omega) W
       have hcapI:(h:Int)+1<=(a:Int):=by omega
       have hnb:h<=1073741823:=by
        have h1:=HB.out.2.2.2.2.2.2.1;have h2:(s.stk++v::T.take (T.length-k)).length=(L++[x]).length:=by rw[av]
        rw[aV.out]at h1;simp at h1 h2;omega
       have hxI:(x:Int)<(ns.length:Int):=by omega
       have aO:OwnRow intL wr D 3 (.slice (some ⟨g,0,none⟩) h a) L:=by
        have h1:OwnRow intL wr D 3 (.slice (some ⟨g,0,none⟩) (h+1) a) (L++[x]):=by rw[<-H];exact d
        have:=h1.drop1;rwa[ah]at this
       have ap:(Value.slice (some ⟨g,0,none⟩) h a).ownBlock=sk2.ownBlock:=by rw[H];rfl
       have ay:∀k,(Value.slice (some ⟨g,0,none⟩) h a).ownBlock=some k->(Value.slice j q.sizes.length m).ownBlock≠some k:=fun k e=>K.apart k (ap▸e)
       have aE:=hid K;have aR:=hid aO;have aG:=hid ap;have aP:=hid ay;have HD:Hid (p.sizes=q.sizes/\p.on.length=ns.length/\p.inn.length=ns.length/\p.stk=L++[x]):=hid ⟨d2,d3.trans HB.out.2.2.2.2.1,d4.trans HB.out.2.2.2.2.2.1,d1⟩;have aA:=hid hp;have aJ:=hid aB;clear aO ap ay K d ar aQ y0 aS H ah d1 d2 d3 d4 hp av aB;go_upto_region 20 with fail;obtain⟨I,ac⟩:=ex (wr.setCell ⟨y.bS,0,none⟩ (.slice (some ⟨g,0,none⟩) h a))
       have V:TAt y B D (some C) c root vs ns I {p with stk:=L} (.slice (some ⟨g,0,none⟩) h a) (.slice j q.sizes.length m):=by rw[<-ac];exact aE.out.setS aR.out aP.out
       have f5:TF y sk2 (.slice j q.sizes.length m) wr I (.slice (some ⟨g,0,none⟩) h a) (.slice j q.sizes.length m):=by rw[<-ac];exact((TF.refl _ _ _ _).set y.bS 0 (by simp) _).reval aG.out
       (try rw[ac]);have o0:I.cell? ⟨y.bO,0,none⟩=some (.slice (some ⟨y.rO,0,none⟩) ns.length ns.length):=V.xO.cell 0;have ov:I.cell? ⟨y.rO,x,none⟩=some (.bool (p.on.getD x false)):=by rw[V.rO.cell,zah (by rw[HD.out.2.1];exact aK)]
       have of:∀i,I.frozen? ⟨y.rO,i,none⟩=false:=V.rO.frozen;have H5:=hid V;have F5:=hid f5;clear ac V f5 s0 sf y1 a8 aE aR aP aG;go_upto_region 21 with fail;obtain⟨w6,ae⟩:=ex (I.setCell ⟨y.rO,x,none⟩ (.bool false))
       have h6:TAt y B D (some C) c root vs ns w6 {p with stk:=L,on:=p.on.set x false} (.slice (some ⟨g,0,none⟩) h a) (.slice j q.sizes.length m):=by rw[<-ae];exact H5.out.setO x false
       have f6:TF y sk2 (.slice j q.sizes.length m) wr w6 (.slice (some ⟨g,0,none⟩) h a) (.slice j q.sizes.length m):=by rw[<-ae];exact F5.out.set y.rO x (by simp) _
       (try rw[ae]);have c0:w6.cell? ⟨y.bC,0,none⟩=some (.slice (some ⟨y.rC,0,none⟩) ns.length ns.length):=h6.xC.cell 0;have z0:w6.cell? ⟨y.bZ,0,none⟩=some (.slice j q.sizes.length m):=h6.bZ.cell 0;have cv:w6.cell? ⟨y.rC,x,none⟩=some (.int .i64 (p.inn.getD x (-1))):=by rw[h6.rC.cell,zb2 (by rw[HD.out.2.2.1];exact aK)]
       have cf:∀i,w6.frozen? ⟨y.rC,i,none⟩=false:=h6.rC.frozen;have H6:=hid h6;have F6:=hid f6;clear ae h6 f6 o0 ov of H5 F5;go_upto_region 22 with fail;obtain⟨w7,af⟩:=ex (w6.setCell ⟨y.rC,x,none⟩ (.int .i64 (q.sizes.length:Int)))
       have h7:TAt y B D (some C) c root vs ns w7 (p.drop1 x) (.slice (some ⟨g,0,none⟩) h a) (.slice j q.sizes.length m):=by
        have:=H6.out.setC x (q.sizes.length:Int);rw[af]at this;have e:p.drop1 x={p with stk:=L,on:=p.on.set x false,inn:=p.inn.set x (q.sizes.length:Int)}:=by
         unfold Gr.TS.drop1;rw[HD.out.2.2.2,HD.out.1,List.dropLast_concat]
        rw[e];exact this
       have f7:TF y sk2 (.slice j q.sizes.length m) wr w7 (.slice (some ⟨g,0,none⟩) h a) (.slice j q.sizes.length m):=by rw[<-af];exact F6.out.set y.rC x (by simp) _
       (try rw[af]);have am:=o.out.2.2.kept N.out f7;have a0:w7.cell? ⟨bA,0,none⟩=some (.int .i64 (v:Int)):=am.b.cell 0;have aI:=hid am;have H7:=hid h7;have F7:=hid f7;clear af h7 f7 c0 z0 cv cf H6 F6 am;by_cases hkT:k<T.length
       ·have ab:=aJ.out.resolve_left (fun e=>by omega);have aa:¬((x:Int)=(v:Int)):=by have:=ab.2.1;omega
        have aH:((x:Int)==(v:Int))=false:=by simpa using aa
        have X:Hid (TAt y B D (some C) c root vs ns w7 ((T.reverse.take (k+1)).foldl Gr.TS.drop1 q) (.slice (some ⟨g,0,none⟩) h a) (.slice j q.sizes.length m)/\TF y sv zv w w7 (.slice (some ⟨g,0,none⟩) h a) (.slice j q.sizes.length m)/\ABox y D w7 (.slice (some ⟨g,0,none⟩) h a) (.slice j q.sizes.length m) bA v):=hid ⟨by
         rw[ab.2.2,List.foldl_append,aA.out];exact H7.out,o.out.2.1.trans F7.out,aI.out⟩
        clear ab o;go_wp2;go_roundw
        case rel=>exact⟨k+1,_,by omega,by go_num,X⟩
        case measure=>simp[intOf];omega
       ·have ab:=aJ.out.resolve_right (fun e=>hkT e.1);obtain⟨ak,F⟩:=ab;have aa:(x:Int)=(v:Int):=by omega
        have aH:((x:Int)==(v:Int))=true:=by simpa using aa
        have HX:Hid (q.close v={(p.drop1 x)with sizes:=q.sizes++[k+1]}):=hid (by
         rw[a2.out,<-aA.out,F,ak,List.take_of_length_le (by simp)])
        have a6:=hid (o.out.2.1.trans F7.out);have HO:Hid (OwnRow intL w7 D 3 (.slice j q.sizes.length m) q.sizes):=hid (by have:=H7.out.siz;rw[show(p.drop1 x).sizes=q.sizes from HD.out.1]at this;exact this);have z0:w7.cell? ⟨y.bZ,0,none⟩=some (.slice j q.sizes.length m):=H7.out.bZ.cell 0;have e0:=World.new_ne w7 _ z0;have hDw:=H7.out.hd;have hqs:q.sizes.length<=1073741823:=HB.out.2.2.2.2.2.2.2;clear F hkT o ak aI;go_upto_region 24 with fail;go_wp2_with (at_builtin;go_must (refine zab _ rfl (.tmp 99) (.tmp 101) 33 3 8 rfl intT D (.slice j q.sizes.length m) q.sizes rfl (HO.out.alloc _) _ _ 1 [k+1] rfl (RowAt.lit1 _ _ rfl _ ?_) ?_ ?_ ?_))
        any_goals (first|rfl|omega| (simp;omega)| (rw[World.size_alloc];omega))
        intro v' w8 d hg aT;have R:=H7.out.alloc (.cells #[.int .i64 ((k:Int)+1)] 3);have aw:Blk w8 y.bZ 33 _:=R.bZ.grown hg (fun e=>zbw R.siz R.bZ (by decide) e.symm);have pc3:w8.cell? ⟨y.bZ,0,none⟩=some (.slice j q.sizes.length m):=aw.cell 0;have pf3:∀i,w8.frozen? ⟨y.bZ,i,none⟩=false:=aw.frozen;obtain⟨g3,ai,aU,_⟩:=d.shape (by simp);obtain⟨n3,aL⟩:=ex ((q.sizes++[k+1]).length)
        rw[aL]at aU;subst aU;have aN:=hid R;have a3:=hid d;have HG:=hid hg;have aZ:=hid aT;clear R d hg aT aw aL;go_wp2_with fail;go_end0;have al:(Value.slice (some ⟨g3,0,none⟩) n3 ai).ownBlock=(Value.slice j q.sizes.length m).ownBlock\/(Value.slice (some ⟨g3,0,none⟩) n3 ai).ownBlock=some (w7.alloc (.cells #[.int .i64 ((k:Int)+1)] 3)).heap.size:=by rw[World.size_alloc];exact aZ.out
        have f8:=(a6.out.alloc (.cells #[.int .i64 ((k:Int)+1)] 3)).trans (TF.grownZ aN.out HG.out al);have h8:=aN.out.grownZ a3.out HG.out al;rw[Q.out,HX.out];exact⟨rfl,_,_,h8,f8⟩
     ·have a5:¬((ql:Int)=(qi:Int)):=by omega
      have hneb:((ql:Int)==(qi:Int))=false:=by simpa using a5
      have Q:Hid (tvisit (Gr.succ ns) (f+1) s v=q):=hid (by rw[r.out];unfold tfin;rw[if_neg (by rw[P,U];exact he)]);clear P U r he;go_upto_region 16 with fail;go_quiet (fail);go_wp2_with fail;refine bodyPost_ret (v:=.tuple #[]) (by simp[results,results85,go_sem]) rfl ?_;rw[Q.out];exact⟨rfl,sk,zk,HQ.out.1.drewN _,aC.out.drewN _⟩
end
section
variable {y:TL} {B D:Nat} {A:Option Addr} {c:Nat} {root:Int} {vs:List NV} {ns:List Gr.Nd}
theorem zl1 (hr:Refs ns) (hl:ns.length<=1073741823) (hks:∀n∈ns,n.keys.length<=1073741823/\n.items.length<=1073741823):
 ∀(f:Nat) (s:Gr.TS) (v:Nat) (G:Nat->Prop) (w:World) (sv zv:Value),TAt y B D A c root vs ns w s sv zv->Gr.Inv (Gr.succ ns) ns.length G s->v<ns.length->s.ix v=0->(∀g,G g->Gr.Reach (Gr.succ ns) g v)->unv ns.length s<=f->
 Calls prog 85 (y.args (.int .i64 v)) w (TPost y B D A c root vs ns w sv zv (tvisit (Gr.succ ns) f s v)):=by
 intro f
 induction f with
 |zero=>
  intro s v G w sv zv h N Q r t Z;have:=zec N Q r;omega
 |succ f ih=>
  intro s v G w sv zv h N Q r t Z;have hvI:(v:Int)<(ns.length:Int):=by omega
  have hnx:s.next<=1073741823:=by have:=N.bn;omega
  have hsl:s.stk.length<=1073741823:=by have:=N.bz;omega
  have IH:=hid ih;have O:Hid ((∀g,G g->Gr.Reach (Gr.succ ns) g v)/\unv ns.length s<=f+1):=hid ⟨t,Z⟩;have HI:=hid N;have a:=hid h.ok;have U:=h.alloc (.cells #[.int .i64 v] 3);have o:ABox y D (w.alloc (.cells #[.int .i64 v] 3)) sv zv w.heap.size v:=⟨Blk.new _ _ _,h.hd,fun e=>by have:=(h.stk.lt _ e).2;omega,fun e=>by have:=(h.siz.lt _ e).2;omega⟩
  have I:TF y sv zv w (w.alloc (.cells #[.int .i64 v] 3)) sv zv:=(TF.refl _ _ _ _).alloc _;have H:=hid h;clear ih N t Z h;unfold TL.args;go_enter func85,ntmps85;obtain⟨X,M⟩:=ex (w.alloc (.cells #[.int .i64 v] 3))
  rw[M]at U o I;obtain⟨L,K⟩:=ex w.heap.size
  have n0:X.cell? ⟨y.bN,0,none⟩=some (.int .i64 (s.next:Int)):=U.bN.cell 0;have nf:∀i,X.frozen? ⟨y.bN,i,none⟩=false:=U.bN.frozen;have hw:IntKind.i64.wrap ((s.next:Int)+1)=(s.next:Int)+1:=IntWalk.i64_in _ (by omega);go_upto_region 1 with fail;(try rw[M]);rw[K]at o;(try rw[K]);clear M K;go_upto_region 2 with fail;obtain⟨m,q⟩:=ex (X.setCell ⟨y.bN,0,none⟩ (.int .i64 ((s.next:Int)+1)))
  have C:TF y sv zv X m sv zv:=by rw[<-q];exact(TF.refl _ _ _ _).set y.bN 0 (.inl rfl) _
  have d:TAt y B D A c root vs ns m {s with next:=s.next+1} sv zv:=by rw[<-q];exact U.setN (s.next+1)
  have k:=o.kept a.out C;have S:=hid (I.trans C);rw[q];have i0:m.cell? ⟨y.bI,0,none⟩=some (.slice (some ⟨y.rI,0,none⟩) ns.length ns.length):=d.xI.cell 0;have l0:m.cell? ⟨y.bL,0,none⟩=some (.slice (some ⟨y.rL,0,none⟩) ns.length ns.length):=d.xL.cell 0;have a0:m.cell? ⟨L,0,none⟩=some (.int .i64 (v:Int)):=k.b.cell 0;have n1:m.cell? ⟨y.bN,0,none⟩=some (.int .i64 ((s.next:Int)+1)):=d.bN.cell 0;have rf:∀i,m.frozen? ⟨y.rI,i,none⟩=false:=d.rI.frozen;have lf:∀i,m.frozen? ⟨y.rL,i,none⟩=false:=d.rL.frozen;have xv:m.cell? ⟨y.rI,v,none⟩=some (.int .i64 0):=by
   rw[d.rI.cell,zad (by show v<s.idx.length;rw[HI.out.li];exact Q)];show some (Value.int .i64 ((s.ix v:Nat):Int))=_;rw[r];rfl
  have yv:m.cell? ⟨y.rL,v,none⟩=some (.int .i64 ((s.lw v:Nat):Int)):=by
   rw[d.rL.cell,zad (by show v<s.low.length;rw[HI.out.ll];exact Q)];rfl
  have q1:y.bN≠y.rI:=a.out.nI;have q2:y.bN≠y.rL:=a.out.nL;have q3:y.rI≠y.rL:=a.out.iL;have q4:y.rL≠y.rI:=a.out.iL.symm;have q5:y.bL≠y.rI:=d.xL.ne_ d.rI (by decide);have q6:y.bL≠y.rL:=d.xL.ne_ d.rL (by decide);have q7:y.bI≠y.rI:=d.xI.ne_ d.rI (by decide);have q8:y.bI≠y.rL:=d.xI.ne_ d.rL (by decide);have q9:L≠y.rI:=by have:=k.hi;have:=a.out.dI;omega
  have ae:L≠y.rL:=by have:=k.hi;have:=a.out.dL;omega
  have H2:=hid d;have V:=hid k;clear U o I n0 nf hw q C d k;go_cut [24] (fun _ F=>TAt y B D A c root vs ns F {s with next:=s.next+1,idx:=s.idx.set v (s.next+1),low:=s.low.set v (s.next+1)} sv zv/\TF y sv zv w F sv zv/\ABox y D F sv zv L v)
  case first=>
   go_region
   all_goals
    go_wp2;go_meet;exact⟨((H2.out.setI v (s.next+1)).setL v (s.next+1)).drew,((S.out.set y.rI v (by simp) _).set y.rL v (by simp) _).drew,
     V.out.kept a.out (((TF.refl _ _ _ _).set y.rI v (by simp) _).set y.rL v (by simp) _).drew⟩
  case rest=>
   obtain⟨z,Y,R⟩:=hcut;clear i0 l0 a0 n1 rf lf xv yv q1 q2 q3 q4 q5 q6 q7 q8 q9 ae H2 V S;obtain⟨As,cs,p,_⟩:=z.stk.form;have s0:wc.cell? ⟨y.bS,0,none⟩=some (.slice As s.stk.length cs):=by rw[z.bS.cell 0];show some sv=_;rw[p]
   have a0:wc.cell? ⟨L,0,none⟩=some (.int .i64 (v:Int)):=R.b.cell 0;have e0:=World.new_ne wc _ s0;have HO:Hid (OwnRow intL wc D 3 (.slice As s.stk.length cs) s.stk):=hid (by have:=z.stk;rw[p]at this;exact this);have ad:=hid p;have HT:=hid z;have HF:=hid Y;have HA:=hid R;have hDw:=z.hd;clear p z Y R;go_upto_region 3 with fail;go_cut [28] (fun _ F=>∃sv2,TAt y B D A c root vs ns F {s with next:=s.next+1,idx:=s.idx.set v (s.next+1),low:=s.low.set v (s.next+1),stk:=s.stk++[v]} sv2 zv/\TF y sv zv w F sv2 zv/\ABox y D F sv2 zv L v)
   case first=>
    go_wp2_with (at_builtin;go_must (refine zab _ rfl (.tmp 28) (.tmp 30) 33 3 8 rfl intT D (.slice As s.stk.length cs) s.stk rfl (HO.out.alloc _) _ _ 1 [v] rfl (RowAt.lit1 _ _ rfl _ ?_) ?_ ?_ ?_))
    any_goals (first|rfl|omega| (simp;omega)| (rw[World.size_alloc];omega))
    intro v' w3 j t J;have l:=HT.out.alloc (.cells #[.int .i64 v] 3);rw[<-ad.out]at t J;have E:Blk w3 y.bS 33 _:=l.bS.grown t (fun e=>zbw l.stk l.bS (by decide) e.symm);have pc3:w3.cell? ⟨y.bS,0,none⟩=some sv:=E.cell 0;have pf3:∀i,w3.frozen? ⟨y.bS,i,none⟩=false:=E.frozen;obtain⟨g3,u,W,_⟩:=j.shape (by simp);obtain⟨n3,P⟩:=ex ((s.stk++[v]).length)
    rw[P]at W;subst W;have T:=hid l;have ac:=hid j;have HG:=hid t;have aa:=hid J;clear l j t J E P;go_wp2;go_meet;have f1:=(TF.refl y sv zv wc).alloc (.cells #[.int .i64 v] 3);have x:(Value.slice (some ⟨g3,0,none⟩) n3 u).ownBlock=sv.ownBlock\/(Value.slice (some ⟨g3,0,none⟩) n3 u).ownBlock=some (wc.alloc (.cells #[.int .i64 v] 3)).heap.size:=by rw[World.size_alloc];exact aa.out
    have f2:=f1.trans (TF.grownS T.out HG.out x);exact⟨_,T.out.grownS ac.out HG.out x,HF.out.trans f2,HA.out.kept a.out f2⟩
   case rest=>
    obtain⟨ab,z,Y,R⟩:=hcut;rename_i hK0;apply hK0;exact zl0 hr hl hks HI.out Q r O.out.1 O.out.2 IH.out w _ sv zv ab L z Y R
end
def compL (z gb b0 b1 b2 r0 r1 r2:Nat):TL:=⟨z+1+1+1+1,b0,b1,z+1,z+1+1+1,z+1+1+1+1+1,gb,z,b2,r0,r1,r2,z+1+1⟩
theorem zl2 (B z gb b0 b1 b2 r0 r1 r2:Nat) (A:Option Addr) (c:Nat) (root:Int) (vs:List NV) (ns:List Gr.Nd) (wr W:World) (hz:wr.heap.size=z)
 (hW:((((((wr.alloc (.cells #[.slice none 0 0] 33)).alloc (.cells #[.slice none 0 0] 33)).alloc (.cells (bcells (List.replicate ns.length false)) 4)).alloc (.cells #[.slice (some ⟨z+1+1,0,none⟩) ns.length ns.length] 62)).alloc (.cells #[.int .i64 0] 3)).alloc (.cells #[(compL z gb b0 b1 b2 r0 r1 r2).fn] 88))=W)
 (hI:Blk wr b0 33 #[.slice (some ⟨r0,0,none⟩) ns.length ns.length]) (hL:Blk wr b1 33 #[.slice (some ⟨r1,0,none⟩) ns.length ns.length]) (hC:Blk wr b2 33 #[.slice (some ⟨r2,0,none⟩) ns.length ns.length])
 (hrI:Blk wr r0 3 (icells (List.replicate ns.length 0))) (hrL:Blk wr r1 3 (icells (List.replicate ns.length 0))) (hrC:Blk wr r2 3 (jcells (List.replicate ns.length (-1))))
 (hG:Blk wr gb 24 #[.slice A ns.length c,.int .i64 root]) (h01:r0≠r1) (h02:r0≠r2) (h12:r1≠r2) (hB:B<=z) (hB0:B<=r0) (hB1:B<=r1) (hB2:B<=r2) (hat:GAt wr B A vs ns):
 TAt (compL z gb b0 b1 b2 r0 r1 r2) B (z+1+1+1+1+1+1) A c root vs ns W (Gr.tzero ns.length) (.slice none 0 0) (.slice none 0 0)/\Below wr.heap.size wr W/\W.heap.size=z+1+1+1+1+1+1:=by
 have l:Below wr.heap.size wr W:=by rw[<-hW];exact((((((Below.refl _ _).alloc (Nat.le_refl _) _).alloc (by simp) _).alloc (by simp;omega) _).alloc (by simp;omega) _).alloc (by simp;omega) _).alloc (by simp;omega) _
 have b:W.heap.size=z+1+1+1+1+1+1:=by rw[<-hW];simp[hz]
 have h:=hI.lt;have a:=hL.lt;have d:=hC.lt;have p:=hrI.lt;have o:=hrL.lt;have q:=hrC.lt;have m:Blk W z 33 #[.slice none 0 0]:=by rw[<-hW,<-hz];exact(((((Blk.new _ _ _).alloc _).alloc _).alloc _).alloc _).alloc _
 have f:Blk W (z+1) 33 #[.slice none 0 0]:=by
  rw[<-hW];have:=Blk.new (wr.alloc (.cells #[.slice none 0 0] 33)) 33 #[.slice none 0 0];rw[World.size_alloc,hz]at this;exact(((this.alloc _).alloc _).alloc _).alloc _
 have i:Blk W (z+1+1) 4 (bcells (List.replicate ns.length false)):=by
  rw[<-hW];have:=Blk.new ((wr.alloc (.cells #[.slice none 0 0] 33)).alloc (.cells #[.slice none 0 0] 33)) 4 (bcells (List.replicate ns.length false));simp only[World.size_alloc,hz]at this;exact(((this.alloc _).alloc _).alloc _)
 have j:Blk W (z+1+1+1) 62 #[.slice (some ⟨z+1+1,0,none⟩) ns.length ns.length]:=by
  rw[<-hW];have:=Blk.new (((wr.alloc (.cells #[.slice none 0 0] 33)).alloc (.cells #[.slice none 0 0] 33)).alloc (.cells (bcells (List.replicate ns.length false)) 4)) 62 #[.slice (some ⟨z+1+1,0,none⟩) ns.length ns.length];simp only[World.size_alloc,hz]at this;exact((this.alloc _).alloc _)
 have n:Blk W (z+1+1+1+1) 3 #[.int .i64 0]:=by
  rw[<-hW];have:=Blk.new ((((wr.alloc (.cells #[.slice none 0 0] 33)).alloc (.cells #[.slice none 0 0] 33)).alloc (.cells (bcells (List.replicate ns.length false)) 4)).alloc (.cells #[.slice (some ⟨z+1+1,0,none⟩) ns.length ns.length] 62)) 3 #[.int .i64 0];simp only[World.size_alloc,hz]at this;exact(this.alloc _)
 have g:Blk W (z+1+1+1+1+1) 88 #[(compL z gb b0 b1 b2 r0 r1 r2).fn]:=by
  rw[<-hW];have:=Blk.new (((((wr.alloc (.cells #[.slice none 0 0] 33)).alloc (.cells #[.slice none 0 0] 33)).alloc (.cells (bcells (List.replicate ns.length false)) 4)).alloc (.cells #[.slice (some ⟨z+1+1,0,none⟩) ns.length ns.length] 62)).alloc (.cells #[.int .i64 0] 3)) 88 #[(compL z gb b0 b1 b2 r0 r1 r2).fn];simp only[World.size_alloc,hz]at this;exact this
 refine⟨⟨⟨?_,?_,?_,h01,h02,h12,?_,?_,?_,?_,?_,?_,?_,?_,?_,?_,?_,?_,?_,?_,?_⟩,by omega,hI.below l h,hL.below l a,hC.below l d,j,g,hG.below l hG.lt,hat.below (l.mono (by omega)),n,f,m,hrI.below l p,hrL.below l o,hrC.below l q,i,OwnRow.nil,OwnRow.nil,fun k e=>by cases e⟩,l,b⟩
 all_goals (simp only[compL];omega)
section
variable {P:Program} {md:Region.Mode} {ops:Array Oper} {Q:Exit->Act->World->Prop}
theorem zl3 (Inv:Nat->Array Bool->Act->World->Prop)
 (hstep:∀m listed a w i,Inv m listed a w->i∈Region.ready md ops listed->∃m',m=m'+1/\wpOp P ops Q i (fun a' w'=>Inv m' (listed.setIfInBounds i true) a' w') a w)
 (hend:∀m listed a w,Inv m listed a w->Region.ready md ops listed=[]->Q .normal a w):
 ∀fuel listed a w,Inv fuel listed a w->wpAny P md ops Q fuel listed a w:=by
 intro fuel
 induction fuel with
 |zero=>
  intro listed a w h;have b:Region.ready md ops listed=[]:=List.eq_nil_iff_forall_not_mem.2 (fun i c=>by obtain⟨m',e,_⟩:=hstep _ _ _ _ i h c;omega);exact⟨b,hend _ _ _ _ h b⟩
 |succ fuel ih=>
  intro listed a w h;refine⟨fun b=>hend _ _ _ _ h b,fun i c=>?_⟩;obtain⟨m',e,d⟩:=hstep _ _ _ _ i h c;obtain rfl:m'=fuel:=by omega
  exact wpOp_mono (fun a w h=>ih _ _ _ h) d
variable {i:Nat} {o:Oper} {K:Act->World->Prop} {a:Act} {w w':World}
theorem zbk (v:Value) (ho:ops[i]? =some o) (hg:o.guard=none) (hrun:(execOp a.eval o).run P w=.ok (.value v) w') (hK:K (a.put o.dst v) w'):wpOp P ops Q i K a w:=by
 unfold wpOp;rw[ho];simp only[Region.wanted,hg,if_true];left;unfold Oper.wp;rw[hrun];exact hK
theorem zjk (ho:ops[i]? =some o) (hg:o.guard=none) (hrun:(execOp a.eval o).run P w=.ok .skip w') (hK:K (a.put o.dst undef) w'):wpOp P ops Q i K a w:=by
 unfold wpOp;rw[ho];simp only[Region.wanted,hg,if_true];left;unfold Oper.wp;rw[hrun];exact hK
end
theorem zd9 (n:Gr.Str) (hl:n.length<=1073741823) (w:World):
 Calls prog 69 #[.string ⟨n.toArray⟩] w fun e w'=>e=.returned (.bool (Gr.intB n))/\Below w.heap.size w w':=by
 have d:=Lib.hid (fun W=>zjb n hl W);obtain⟨r,a⟩:=ex (Gr.intB n)
 rw[a]at d ⊢;clear a;go_enter func69,ntmps69;go_wp2_with fail;refine(d.out _).mono ?_;rintro e w2 ⟨b,A,m,c,rfl,f⟩;have g:=Lib.hid f;clear f;go_wp2;go_ret;exact⟨rfl,g.out.alloc g.out.size _⟩
open Go.RowKit Go.Sort
theorem tz64_core (x k idx:Nat) (w:World) (hx0:((x:Int)==0)=false)
 (key:IntKind.u64.wrap (bits BinOp.and IntKind.u64 (x:Int) (IntKind.u64.wrap (-(x:Int)))*285870213051353865) /288230376151711744=(idx:Int))
 (hi:idx<64) (hk:k<64) (hcell:w.cell? ⟨6,idx,none⟩=some (.int .u8 k)):
 Calls prog 181 #[.int .u64 x] w fun e w'=>e=.returned (.int .i64 k)/\w'=w:=by
 go_enter func181,ntmps181;go_wp2_with (simp only[key]);go_ret;exact⟨rfl,rfl⟩
theorem zse (x:Nat) (hx0:x≠0) (hx:x<18446744073709551616) (w:World) (hT:UT w):
 Calls prog 181 #[.int .u64 x] w fun e w'=>e=.returned (.int .i64 (Lib.ctz 64 x))/\w'=w:=by
 obtain⟨c,f⟩:=Lib.lowest_bit 64 x hx0 hx;obtain⟨d,b⟩:=Lib.deBruijn64_at _ f;have a:=hT.bru _ d;rw[b]at a;exact tz64_core x _ _ w (by simp;omega) (tz64_key x _ hx hx0 c) d f a
open Flt in
theorem zoy (m L:Nat) (e:Int) (h:Flt.Fits m L e) (f:Nat) (hf:fw m L e=f) (w:World) (hT:UT w):Calls prog 155 #[.float .f64 f] w fun r w'=>r=.returned (.tuple #[.int .u64 (m:Int),.int .i64 e])/\w=w':=by
 have i:=h.fw_lt.2;obtain⟨z,hz,d,_,a⟩:=h.fields;have b:=h.sig_bd;have j:m*2 ^ z<9007199254740992:=by rw[<-d];exact b.2.1
 have g:0<m*2 ^ z:=by rw[<-d];exact b.1
 have l:m<9007199254740992:=by have:=h.hi;have h2:=zev (L+1) h.len;omega
 rw[hf]at a i;have A:=hid (fun W=>zgi f (by omega) W);have c1:=fun W=>zce f W
 have x:=zr4 f (by omega);have c:=hid (zse (m*2 ^ z) (by omega) (by omega) w hT);rw[zw8 m z h.odd (by omega)]at c;obtain⟨M,q⟩:=ex (m*2 ^ z)
 have hdiv:(M:Int) /2 ^ z=(m:Int):=by rw[<-q];push_cast;exact Int.mul_ediv_cancel _ (by have:=Int.pow_pos (n:=2) (m:=z) (by omega);omega)
 rw[q]at c a j g;have hz0:(0:Int)<=(z:Int):=by omega
 have hz1:(z:Int)<=52:=by omega
 have hzn:((z:Int)).toNat=z:=by omega
 rcases a with⟨u,o,p⟩|⟨k,u,C,o,p⟩
 ·have B:(f:Int) /4503599627370496=0:=by omega
  have t:=hid p;rw[o]at x;clear h b hf hT d q u o p i j g l;go_enter func155,ntmps155;go_wp2_with fail;refine(A.out _).mono ?_;rintro _ s ⟨rfl,rfl⟩;go_wp2_with fail;refine c.out.mono ?_;rintro _ s ⟨rfl,rfl⟩;go_wp2;go_ret2;refine⟨?_,rfl⟩;rw[t.out];rfl
 ·have B:(f:Int) /4503599627370496=(k:Int)+1:=by omega
  have i3:IntKind.i64.wrap ((k:Int)+1)=(k:Int)+1:=IntWalk.i64_in _ (by omega);have i5:((k:Int)+1==0)=false:=by simp;omega
  have y:=or_one (f%4503599627370496) (by omega);rw[o]at y;obtain⟨Q,v⟩:=ex (f%4503599627370496)
  rw[v]at x y;have t:Hid (e=(k:Int)+1-1075+z):=hid (by omega);have hk0:(0:Int)<=(k:Int):=by omega
  have hk1:(k:Int)<=2045:=by omega
  clear h b hf hT d q u o p i j g l v C;go_enter func155,ntmps155;go_wp2_with fail;refine(A.out _).mono ?_;rintro _ s ⟨rfl,rfl⟩;go_wp2_with fail;refine c.out.mono ?_;rintro _ s ⟨rfl,rfl⟩;go_wp2;go_ret2;refine⟨?_,rfl⟩;rw[t.out];rfl
theorem zxl (u:Nat) (hu64:u<18446744073709551616) (w:World) (hT:UT w):
 Calls prog 182 #[.int .u64 u,.int .i64 10] w fun e w'=>e=.returned (.string ⟨(Lib.decDigits u).toArray⟩)/\Below w.heap.size w w':=by
 by_cases hs:u<100
 ·have o:(u:Int)<100:=by omega
  have hw:IntKind.i64.wrap (u:Int)=(u:Int):=IntWalk.i64_in _ (by omega);have v:=hid (fun W=>internal_strconv_small u hs W);go_enter func182,ntmps182;go_wp2_with fail;refine(v.out _).mono ?_;rintro e t ⟨rfl,rfl⟩;go_wp2;go_ret;exact⟨rfl,Below.refl _ _⟩
 ·have o:¬(u:Int)<100:=by omega
  have d:1<=u:=by omega
  have hnd20:Lib.nDigits u<=20:=by have:=Lib.numDigits_eq u d hu64;split at this<;>omega
  have f:prog.arrayLen 229=24:=by kernel_rfl
  have i:prog.underlying 229=some (.array 24 5):=underlying229;have hsl1:∀W,(Instr.sliceAt 229 (.pointer (some ⟨w.heap.size,0,none⟩)) none (some (.int .i64 (Lib.nDigits u:Int))) none).run prog W=.ok (.slice (some ⟨w.heap.size,0,none⟩) (Lib.nDigits u) 24) W:=fun W=>by
   rw[run_sliceAt_array_h W 229 ⟨w.heap.size,0,none⟩ (by simp[Program.arrayLen,Program.elem,i]) .i64 (Lib.nDigits u:Int) (by omega) (by rw[f];omega)];go_simp
  have c:=Lib.holds_zero0 w 229 (Lib.nDigits u) (by omega);have a:=internal_strconv_formatBase10 w.heap.size 0 24 u (Array.replicate (Lib.nDigits u) 0) (w.alloc (.cells Lib.zeros24 229)) c (by rw[Array.size_replicate];exact Lib.lt_pow_nDigits u) hu64 (by rw[Array.size_replicate];omega);rw[Array.size_replicate]at a;have x:=hid a;have q:=hid c;have n:=hid (fun W (hW:UT W)=>internal_strconv_numDigits u d hu64 W hW.pow);have p:Hid (UT (w.alloc (.cells Lib.zeros24 229))):=hid (UT.stays _ _ hT ((Below.refl _ _).alloc (Nat.le_refl _) _));clear c a f i hT hs d;go_enter func182,ntmps182;go_wp2_with fail;refine(n.out _ p.out).mono ?_;rintro e t ⟨rfl,rfl⟩;go_wp2_with fail;refine x.out.mono ?_;rintro e t ⟨rfl,k,v',g,rfl,l⟩;have hcv:(convert 119 9 (.slice (some ⟨w.heap.size,0,none⟩) (Lib.nDigits u) 24)).run prog ((putRow (fun(b:UInt8)=>Value.int .u8 (b.toNat:Int)) (w.alloc (.cells Lib.zeros24 229)) w.heap.size 0 g).drewN k)=.ok (.string ⟨(Lib.decDigits u).toArray⟩) ((putRow (fun(b:UInt8)=>Value.int .u8 (b.toNat:Int)) (w.alloc (.cells Lib.zeros24 229)) w.heap.size 0 g).drewN k):=by
   have h:=run_convert_bytes_back (P:=prog) ((putRow (fun(b:UInt8)=>Value.int .u8 (b.toNat:Int)) (w.alloc (.cells Lib.zeros24 229)) w.heap.size 0 g).drewN k) 119 9 5 ⟨w.heap.size,0,none⟩ 24 (Lib.decDigits u) underlying119 underlying5 underlying9 (fun j r=>by
    rw[Lib.row_is_numeral l j r,Lib.add_plain,World.cell?_drewN];exact cell?_putRow (fun(b:UInt8)=>Value.int .u8 (b.toNat:Int)) _ w.heap.size 0 _ g q.out (by rw[l.size,Array.size_replicate]) j (by rw[l.size];rw[Lib.decDigits_length]at r;exact r))
   rw[Lib.decDigits_length]at h;exact h
  obtain⟨os,s⟩:=Lib.fin_at w (.cells Lib.zeros24 229) g k 0;have m:=hid s;clear l s;go_wp2;go_ret;refine⟨rfl,?_⟩;rw[m.out];exact Lib.below_grow _ _ (Nat.le_refl _) _ _
theorem zvd (u:Nat) (hu64:u<18446744073709551616) (w:World) (hT:UT w):
 Calls prog 156 #[.int .u64 u,.int .i64 10] w fun e w'=>e=.returned (.string ⟨(Lib.decDigits u).toArray⟩)/\Below w.heap.size w w':=by
 have b:=hid (zxl u hu64 w hT);clear hT;go_enter func156,ntmps156;go_wp2_with fail;refine b.out.mono ?_;rintro e w1 ⟨rfl,a⟩;have c:=hid a;clear a;go_wp2;go_ret;exact⟨rfl,c.out⟩
open Flt in
theorem zoz (m L:Nat) (e:Int) (h:Flt.Fits m L e) (f:Nat) (hf:fw m L e=f) (w:World) (hT:UT w):Calls prog 121 #[.float .f64 f] w fun r w'=>r=.returned (.string ⟨(Lib.decDigits m++112::Lib.itoa e).toArray⟩)/\Below w.heap.size w w':=by
 have hlt:=h.fw_lt.2;have A:=h.o_zero;have B:=h.o_self;have hmb:m<9007199254740992:=by have:=h.hi;have v:=zev (L+1) h.len;omega
 have G:=hid (fun W=>zkl f (by omega) (by rw[<-hf];exact h.o_max) W);have E:=hid (fun W=>zoh f (by omega) W);have s:=hid (fun W k=>zoy m L e h f hf W k);have he0:=h.e0;have he1:=h.e1;have y:=hid (fun W k=>zvd m (by omega) W k);have i:=hid (fun W k=>zgp e (by omega) (by omega) W k);have H:(Lib.decDigits m).length<=20:=by
  have v:=congrArg List.length (Gr.zow 20 m (by omega) (by omega));rw[List.length_append,List.length_replicate,Gr.za3]at v;omega
 have C:=zgq e (by omega) (by omega);obtain⟨D,o⟩:∃D:Gr.Str,Lib.decDigits m=D:=⟨_,rfl⟩
 obtain⟨I,t⟩:∃I:Gr.Str,Lib.itoa e=I:=⟨_,rfl⟩
 rw[o]at y H;rw[t]at i C;obtain⟨s1,a⟩:∃x:Gr.Str,[]++D=x:=⟨_,rfl⟩
 have Ls1:s1.length<=30:=by rw[<-a];simp;omega
 have p:=fun W=>zac [] D (by simp;omega) W
 rw[a]at p;obtain⟨s2,b⟩:∃x:Gr.Str,s1++[112]=x:=⟨_,rfl⟩
 have Ls2:s2.length<=40:=by rw[<-b];simp;omega
 have u:=fun W=>zac s1 [112] (by simp;omega) W
 rw[b]at u;obtain⟨s3,d⟩:∃x:Gr.Str,s2++I=x:=⟨_,rfl⟩
 have q:=fun W=>zac s2 I (by omega) W
 rw[d]at q;have F:Hid (D++112::I=s3):=hid (by rw[<-d,<-b,<-a];simp);have c:=hid hT;rw[hf]at A B;rw[o,t];clear h hf hT o t a b d;go_enter func121,ntmps121;go_wp2_with fail;refine(E.out _).mono ?_;rintro r z ⟨rfl,rfl⟩;go_wp2_with fail;refine(G.out _).mono ?_;rintro r z ⟨rfl,rfl⟩;go_wp2_with fail;refine(s.out _ c.out).mono ?_;rintro r z ⟨rfl,rfl⟩;go_wp2_with fail;refine(y.out _ c.out).mono ?_;rintro r w2 ⟨rfl,j⟩;have g:=hid j;clear j;go_wp2_with fail;refine(i.out _ (UT.stays _ _ c.out g.out)).mono ?_;rintro r w3 ⟨rfl,l⟩;have n:=hid (g.out.trans (l.mono g.out.size));clear l;go_wp2;go_ret;rw[F.out];exact⟨rfl,n.out⟩
theorem rep48 (n:Nat):Lib.repeatL [48] n=List.replicate n (48:UInt8):=by
 induction n with
 |zero=>rfl
 |succ n ih=>
  show[48]++Lib.repeatL [48] n=_;rw[ih];rfl
theorem zb9 (x n:Nat) (i j:Int) (hi:i=(x:Int)) (hj:j=(n:Int)) (h1:1<=n) (hn:n<=9) (hx:x<10 ^ n) (w:World) (hT:UT w):
 Calls prog 160 #[.int .i64 i,.int .i64 j] w fun e w'=>e=.returned (.string ⟨(Gr.pd n x).toArray⟩)/\Below w.heap.size w w':=by
 subst hi;subst hj;have hx9:x<1000000000:=Nat.lt_of_lt_of_le hx (Nat.pow_le_pow_right (n:=10) (by omega) (show n<=9 by omega));have b:(Lib.decDigits x).length<=n:=by rw[Lib.decDigits_length];exact Nat.le_of_succ_le_succ (by have:=Gr.zbl (n-1) x (by rwa[show n-1+1=n from by omega]);omega)
 have p:=hid (fun(W:World) (hW:UT W)=>zgp (x:Int) (by omega) (by omega) W hW);rw[Gr.zgh]at p;have a:=hid (Gr.zow n x h1 hx);obtain⟨d,t⟩:=ex (Lib.decDigits x)
 rw[t]at p a b;obtain⟨r,s⟩:=ex (Gr.pd n x)
 rw[s]at a ⊢;obtain⟨z,m⟩:=ex (List.replicate (n-d.length) (48:UInt8))
 have hzl:z.length<=9:=by rw[<-m];simp;omega
 have c:Hid (∀W,Calls prog 184 #[.string ⟨#[48]⟩,.int .i64 ((n-d.length:Nat):Int)] W fun e w'=>e=.returned (.string ⟨z.toArray⟩)/\Below W.heap.size W w'):=hid (fun W=>by
  have:=strings_Repeat ⟨#[48]⟩ (n-d.length) W (by omega) (by show 1*(n-d.length)<=_;omega);rw[show(⟨#[48]⟩:ByteArray).data.toList=[48]from rfl,rep48,m]at this;exact this)
 rw[m]at a;have g:((n-d.length:Nat):Int)=max 0 ((n:Int)-(d.length:Int)):=by omega
 rw[g]at c;have hm0:0<=(n:Int)-(d.length:Int):=by omega
 have h:=fun W=>zac z d (by omega) W
 rw[a.out]at h;have o:=hid hT;clear t s m g hT hx;go_enter func160,ntmps160;go_wp2_with fail;refine(p.out _ o.out).mono ?_;rintro e w1 ⟨rfl,l⟩;have k:=hid l;clear l;go_wp2_with fail;refine(c.out _).mono ?_;rintro e u ⟨rfl,f⟩;have q:Hid (Below w.heap.size w u):=hid (k.out.trans (f.mono k.out.size));clear f;go_wp2;go_ret;exact⟨rfl,q.out⟩
theorem ze9 (sh:Int) (y m d h mi c nanos:Nat) (zh zm z:Int) (hy:y<=9999) (hm:m<=99) (hd:d<=99) (hh:h<=99) (hmi:mi<=99) (hc:c<=99) (hn:nanos<=999999999) (hn0:sh=1->nanos=0) (w:World) (hT:UT w):
 Calls prog 128 #[.agg #[.int .i64 sh,.int .i64 (y:Int),.int .i64 (m:Int),.int .i64 (d:Int),.int .i64 (h:Int),.int .i64 (mi:Int),.int .i64 (c:Int),.int .i64 zh,.int .i64 zm,.int .i64 (nanos:Int),.int .u8 z]] w fun e w'=>e=.returned (.string ⟨((if sh=2 then[]else dateS y m d)++(if sh=3 then[84]else[])++(if sh=1 then[]else clkS h mi c nanos):Gr.Str).toArray⟩)/\Below w.heap.size w w':=by
 have HT:=hid hT;have aB:=hid hn0;clear hT hn0;have X:=hid (fun(W:World) (hW:UT W)=>zb9 y 4 (y:Int) 4 rfl rfl (by omega) (by omega) (by omega) W hW);have am:=za3 4 y;have R:=hid (fun(W:World) (hW:UT W)=>zb9 m 2 (m:Int) 2 rfl rfl (by omega) (by omega) (by omega) W hW);have ao:=za3 2 m;have N:=hid (fun(W:World) (hW:UT W)=>zb9 d 2 (d:Int) 2 rfl rfl (by omega) (by omega) (by omega) W hW);have ay:=za3 2 d;have K:=hid (fun(W:World) (hW:UT W)=>zb9 h 2 (h:Int) 2 rfl rfl (by omega) (by omega) (by omega) W hW);have ad:=za3 2 h;have H:=hid (fun(W:World) (hW:UT W)=>zb9 mi 2 (mi:Int) 2 rfl rfl (by omega) (by omega) (by omega) W hW);have af:=za3 2 mi;have J:=hid (fun(W:World) (hW:UT W)=>zb9 c 2 (c:Int) 2 rfl rfl (by omega) (by omega) (by omega) W hW);have av:=za3 2 c;have an:=hid (fun(W:World) (hW:UT W)=>zb9 nanos 9 (nanos:Int) 9 rfl rfl (by omega) (by omega) (by omega) W hW);have al:=za3 9 nanos;obtain⟨py,Z⟩:=ex (Gr.pd 4 y)
 rw[Z]at X am;obtain⟨pm,Y⟩:=ex (Gr.pd 2 m)
 rw[Y]at R ao;obtain⟨pd,O⟩:=ex (Gr.pd 2 d)
 rw[O]at N ay;obtain⟨ph,Q⟩:=ex (Gr.pd 2 h)
 rw[Q]at K ad;obtain⟨pi,aa⟩:=ex (Gr.pd 2 mi)
 rw[aa]at H af;obtain⟨pc,P⟩:=ex (Gr.pd 2 c)
 rw[P]at J av;obtain⟨M,T⟩:=ex (Gr.pd 9 nanos)
 rw[T]at an al;have E:Hid (dateS y m d=py++[45]++pm++[45]++pd/\clkS h mi c nanos=ph++[58]++pi++[58]++pc++nanoS nanos/\nanoS nanos=(if nanos=0 then[]else 46::trimZ M)):=hid ⟨by simp only[dateS,Z,Y,O];simp,by simp only[clkS,Q,aa,P];simp,by simp only[nanoS,T]⟩;clear Z Y O Q aa P T;obtain⟨r,hr⟩:∃r:Gr.Str,((if sh=2 then[]else dateS y m d)++(if sh=3 then[84]else[])++(if sh=1 then[]else clkS h mi c nanos):Gr.Str)=r:=⟨_,rfl⟩
 have aM:=hid hr;rw[hr];clear hr;obtain⟨l,B⟩:=ex w.heap.size
 obtain⟨a,I⟩:∃a,a=w.alloc (.cells #[.int .i64 sh,.int .i64 (y:Int),.int .i64 (m:Int),.int .i64 (d:Int),.int .i64 (h:Int),.int .i64 (mi:Int),.int .i64 (c:Int),.int .i64 zh,.int .i64 zm,.int .i64 (nanos:Int),.int .u8 z] 135):=⟨_,rfl⟩
 have b:Hid (Blk a l 135 #[.int .i64 sh,.int .i64 (y:Int),.int .i64 (m:Int),.int .i64 (d:Int),.int .i64 (h:Int),.int .i64 (mi:Int),.int .i64 (c:Int),.int .i64 zh,.int .i64 zm,.int .i64 (nanos:Int),.int .u8 z]/\Below l w a/\UT a):=hid (by
  rw[I,<-B];exact⟨Blk.new _ _ _,(Below.refl _ _).alloc (Nat.le_refl _) _,UT.stays _ _ HT.out ((Below.refl _ _).alloc (Nat.le_refl _) _)⟩)
 have g:Hid (∀W:WB a.heap.size a,UT W.w):=hid (fun W=>UT.stays _ _ b.out.2.2 W.h);have a6:=hid B;have ah:Hid (∀W:WB a.heap.size a,Calls prog 160 #[.int .i64 (y:Int),.int .i64 4] W.w fun e w'=>e=.returned (.string ⟨py.toArray⟩)/\Below a.heap.size a w'):=hid (fun W=>(X.out W.w (g.out W)).mono (fun _ _ ⟨o,p⟩=>⟨o,W.h.trans (p.mono W.h.size)⟩));have ap:Hid (∀W:WB a.heap.size a,Calls prog 160 #[.int .i64 (m:Int),.int .i64 2] W.w fun e w'=>e=.returned (.string ⟨pm.toArray⟩)/\Below a.heap.size a w'):=hid (fun W=>(R.out W.w (g.out W)).mono (fun _ _ ⟨o,p⟩=>⟨o,W.h.trans (p.mono W.h.size)⟩));have az:Hid (∀W:WB a.heap.size a,Calls prog 160 #[.int .i64 (d:Int),.int .i64 2] W.w fun e w'=>e=.returned (.string ⟨pd.toArray⟩)/\Below a.heap.size a w'):=hid (fun W=>(N.out W.w (g.out W)).mono (fun _ _ ⟨o,p⟩=>⟨o,W.h.trans (p.mono W.h.size)⟩));have aq:Hid (∀W:WB a.heap.size a,Calls prog 160 #[.int .i64 (h:Int),.int .i64 2] W.w fun e w'=>e=.returned (.string ⟨ph.toArray⟩)/\Below a.heap.size a w'):=hid (fun W=>(K.out W.w (g.out W)).mono (fun _ _ ⟨o,p⟩=>⟨o,W.h.trans (p.mono W.h.size)⟩));have ae:Hid (∀W:WB a.heap.size a,Calls prog 160 #[.int .i64 (mi:Int),.int .i64 2] W.w fun e w'=>e=.returned (.string ⟨pi.toArray⟩)/\Below a.heap.size a w'):=hid (fun W=>(H.out W.w (g.out W)).mono (fun _ _ ⟨o,p⟩=>⟨o,W.h.trans (p.mono W.h.size)⟩));have aw:Hid (∀W:WB a.heap.size a,Calls prog 160 #[.int .i64 (c:Int),.int .i64 2] W.w fun e w'=>e=.returned (.string ⟨pc.toArray⟩)/\Below a.heap.size a w'):=hid (fun W=>(J.out W.w (g.out W)).mono (fun _ _ ⟨o,p⟩=>⟨o,W.h.trans (p.mono W.h.size)⟩));clear X R N K H J;go_enter func128,ntmps128;go_upto_region 2 with fail;(try rw[<-I]);(try rw[B]);clear I B;have L:a.cell? ⟨l,0,none⟩=some (.int .i64 sh):=(b.out.1.below (Below.refl _ _) b.out.1.lt).cell 0;go_upto_if 6 with fail;go_cut [3] (fun s3 wx=>∃S:Gr.Str,s3=.string ⟨S.toArray⟩/\S.length<=60/\Hid (S=(if sh=2 then[]else dateS y m d)/\Below a.heap.size a wx))
 case first=>
  by_cases h2:sh=2
  ·have a1:(sh != 2)=false:=by simp[h2]
   have n:Hid (([]:Gr.Str)=if sh=2 then[]else dateS y m d):=hid (by rw[if_pos h2]);clear h2;go_wp2;go_meet;exact⟨[],rfl,by simp,hid ⟨n.out,Below.refl _ _⟩⟩
  ·have a1:(sh != 2)=true:=by simpa using h2
   have n:Hid ((if sh=2 then[]else dateS y m d)=dateS y m d):=hid (by rw[if_neg h2]);clear h2;go_upto_region 3 with fail;clear L;have p1:∀W:WB a.heap.size a,W.w.cell? ⟨l,1,none⟩=some (.int .i64 (y:Int)):=fun W=>(b.out.1.below W.h b.out.1.lt).cell 1
   have p2:∀W:WB a.heap.size a,W.w.cell? ⟨l,2,none⟩=some (.int .i64 (m:Int)):=fun W=>(b.out.1.below W.h b.out.1.lt).cell 2
   have p3:∀W:WB a.heap.size a,W.w.cell? ⟨l,3,none⟩=some (.int .i64 (d:Int)):=fun W=>(b.out.1.below W.h b.out.1.lt).cell 3
   obtain⟨s1,D⟩:∃x:Gr.Str,py++[45]=x:=⟨_,rfl⟩
   have Ls1:s1.length<=20:=by rw[<-D];simp<;>omega
   have aH:=fun W=>zac py [45] (by first|omega| (simp<;>omega)) W
   rw[D]at aH;have aC:=hid D;clear D;obtain⟨s2,F⟩:∃x:Gr.Str,s1++pm=x:=⟨_,rfl⟩
   have Ls2:s2.length<=30:=by rw[<-F];simp<;>omega
   have aN:=fun W=>zac s1 pm (by first|omega| (simp<;>omega)) W
   rw[F]at aN;have a2:=hid F;clear F;obtain⟨s3,u⟩:∃x:Gr.Str,s2++[45]=x:=⟨_,rfl⟩
   have Ls3:s3.length<=40:=by rw[<-u];simp<;>omega
   have a3:=fun W=>zac s2 [45] (by first|omega| (simp<;>omega)) W
   rw[u]at a3;have aS:=hid u;clear u;obtain⟨s4,v⟩:∃x:Gr.Str,s3++pd=x:=⟨_,rfl⟩
   have aZ:s4.length<=60:=by rw[<-v];simp<;>omega
   have aX:=fun W=>zac s3 pd (by first|omega| (simp<;>omega)) W
   rw[v]at aX;have aP:=hid v;clear v;refine zaa a.heap.size a (by kernel_rfl) (by kernel_rfl) (Below.refl _ _) ?_
   iterate 17 (try go_big_quiet_step ((first| (with_reducible refine Calls.grow (ah.out _))| (with_reducible refine Calls.grow (ap.out _))| (with_reducible refine Calls.grow (az.out _)))))
   refine wpQuiet_nil ?_;rintro _ ⟨wz,rfl⟩;go_wp2;go_meet;exact⟨s4,rfl,aZ,hid ⟨by rw[n.out,E.out.1,<-aP.out,<-aS.out,<-a2.out,<-aC.out],wz.h⟩⟩
 case rest=>
 obtain⟨S,rfl,hS,HS⟩:=hcut;clear L;have L:wc.cell? ⟨l,0,none⟩=some (.int .i64 sh):=(b.out.1.below HS.out.2 b.out.1.lt).cell 0;go_upto_region 4 with fail;obtain⟨wk,aQ⟩:∃wk,wk=wc:=⟨_,rfl⟩
 subst aQ;go_upto_if 25 with fail;go_cut [3] (fun s3 wx=>∃U:Gr.Str,s3=.string ⟨U.toArray⟩/\U.length<=61/\Hid (U=S++(if sh=3 then[84]else[])/\wx=wk))
 case first=>
  by_cases h3:sh=3
  ·have aO:(sh==3)=true:=by simp[h3]
   have n:Hid ((if sh=3 then([84]:Gr.Str)else[])=[84]):=hid (by rw[if_pos h3]);clear h3;obtain⟨s5,q⟩:∃x:Gr.Str,S++[84]=x:=⟨_,rfl⟩
   have aD:s5.length<=61:=by rw[<-q];simp<;>omega
   have aR:=fun W=>zac S [84] (by first|omega| (simp<;>omega)) W
   rw[q]at aR;have a4:=hid q;clear q;go_wp2;go_meet;exact⟨s5,rfl,aD,hid ⟨by rw[n.out,a4.out],rfl⟩⟩
  ·have aO:(sh==3)=false:=by simpa using h3
   have n:Hid ((if sh=3 then([84]:Gr.Str)else[])=[]):=hid (by rw[if_neg h3]);clear h3;go_wp2;go_meet;exact⟨S,rfl,by omega,hid ⟨by rw[n.out];simp,rfl⟩⟩
 case rest=>
 obtain⟨U,rfl,hU,HU⟩:=hcut;obtain⟨wm,aJ⟩:∃wm,wm=wc:=⟨_,rfl⟩
 subst aJ;have G:Hid (Below a.heap.size a wm):=hid (by rw[HU.out.2];exact HS.out.2);clear L;have L:wm.cell? ⟨l,0,none⟩=some (.int .i64 sh):=(b.out.1.below G.out b.out.1.lt).cell 0;go_upto_region 6 with fail;go_upto_if 30 with fail;go_cut [3] (fun s3 wx=>∃V:Gr.Str,s3=.string ⟨V.toArray⟩/\V.length<=160/\Hid (U++(if sh=1 then[]else clkS h mi c nanos)=V++nanoS nanos/\Below a.heap.size a wx))
 case first=>
  by_cases h1:sh=1
  ·have aF:(sh != 1)=false:=by simp[h1]
   have n:Hid (U++(if sh=1 then[]else clkS h mi c nanos)=U++nanoS nanos):=hid (by rw[if_pos h1,aB.out h1];rfl);clear h1;go_wp2;go_meet;exact⟨U,rfl,by omega,hid ⟨n.out,G.out⟩⟩
  ·have aF:(sh != 1)=true:=by simpa using h1
   have n:Hid ((if sh=1 then[]else clkS h mi c nanos)=clkS h mi c nanos):=hid (by rw[if_neg h1]);clear h1;go_upto_region 7 with fail;clear L;have p4:∀W:WB a.heap.size a,W.w.cell? ⟨l,4,none⟩=some (.int .i64 (h:Int)):=fun W=>(b.out.1.below W.h b.out.1.lt).cell 4
   have p5:∀W:WB a.heap.size a,W.w.cell? ⟨l,5,none⟩=some (.int .i64 (mi:Int)):=fun W=>(b.out.1.below W.h b.out.1.lt).cell 5
   have p6:∀W:WB a.heap.size a,W.w.cell? ⟨l,6,none⟩=some (.int .i64 (c:Int)):=fun W=>(b.out.1.below W.h b.out.1.lt).cell 6
   obtain⟨s6,A⟩:∃x:Gr.Str,ph++[58]=x:=⟨_,rfl⟩
   have Ls6:s6.length<=20:=by rw[<-A];simp<;>omega
   have aI:=fun W=>zac ph [58] (by first|omega| (simp<;>omega)) W
   rw[A]at aI;have a7:=hid A;clear A;obtain⟨s7,C⟩:∃x:Gr.Str,s6++pi=x:=⟨_,rfl⟩
   have Ls7:s7.length<=30:=by rw[<-C];simp<;>omega
   have aY:=fun W=>zac s6 pi (by first|omega| (simp<;>omega)) W
   rw[C]at aY;have aT:=hid C;clear C;obtain⟨s8,s⟩:∃x:Gr.Str,s7++[58]=x:=⟨_,rfl⟩
   have Ls8:s8.length<=40:=by rw[<-s];simp<;>omega
   have aV:=fun W=>zac s7 [58] (by first|omega| (simp<;>omega)) W
   rw[s]at aV;have aW:=hid s;clear s;obtain⟨s9,t⟩:∃x:Gr.Str,s8++pc=x:=⟨_,rfl⟩
   have Ls9:s9.length<=60:=by rw[<-t];simp<;>omega
   have aE:=fun W=>zac s8 pc (by first|omega| (simp<;>omega)) W
   rw[t]at aE;have aG:=hid t;clear t;obtain⟨s10,i⟩:∃x:Gr.Str,U++s9=x:=⟨_,rfl⟩
   have ai:s10.length<=160:=by rw[<-i];simp<;>omega
   have ax:=fun W=>zac U s9 (by first|omega| (simp<;>omega)) W
   rw[i]at ax;have ac:=hid i;clear i;refine zaa a.heap.size a (by kernel_rfl) (by kernel_rfl) G.out ?_
   iterate 19 (try go_big_quiet_step ((first| (with_reducible refine Calls.grow (aq.out _))| (with_reducible refine Calls.grow (ae.out _))| (with_reducible refine Calls.grow (aw.out _)))))
   refine wpQuiet_nil ?_;rintro _ ⟨wy,rfl⟩;go_wp2;go_meet;exact⟨s10,rfl,ai,hid ⟨by rw[n.out,E.out.2.1,<-ac.out,<-aG.out,<-aW.out,<-aT.out,<-a7.out];simp,wy.h⟩⟩
 case rest=>
 obtain⟨V,rfl,hV,HV⟩:=hcut;clear L;have q9:wc.cell? ⟨l,9,none⟩=some (.int .i64 (nanos:Int)):=(b.out.1.below HV.out.2 b.out.1.lt).cell 9;have HZ:Hid (∀W,Below a.heap.size a W->Below w.heap.size w W):=hid (fun W hW=>by rw[a6.out];exact b.out.2.1.trans (hW.mono (Nat.le_of_lt b.out.1.lt)));have ar:Hid (r=V++nanoS nanos):=hid (by rw[<-aM.out,<-HV.out.1,HU.out.1,HS.out.1]);by_cases hz:0<nanos
 ·have a0:(0:Int)<(nanos:Int):=by omega
  have au:Hid (∀W,Calls prog 161 #[.string ⟨M.toArray⟩,.string ⟨#[48]⟩] W fun e w'=>e=.returned (.string ⟨(trimZ M).toArray⟩)/\w'=W):=hid (fun W=>strings_TrimRight_one ⟨M.toArray⟩ 48 (by decide) W (by show M.toArray.size<=_;simp;omega));have aU:(trimZ M).length<=9:=by unfold trimZ;rw[List.length_reverse];exact Nat.le_trans (List.dropWhile_sublist _).length_le (by rw[List.length_reverse];omega)
  obtain⟨f,hf⟩:=ex (trimZ M)
  have aK:=hid hf;rw[hf]at au aU;clear hf;obtain⟨s11,k⟩:∃x:Gr.Str,[46]++f=x:=⟨_,rfl⟩
  have Ls11:s11.length<=20:=by rw[<-k];simp<;>omega
  have aj:=fun W=>zac [46] f (by first|omega| (simp<;>omega)) W
  rw[k]at aj;have ak:=hid k;clear k;obtain⟨s12,j⟩:∃x:Gr.Str,V++s11=x:=⟨_,rfl⟩
  have Ls12:s12.length<=200:=by rw[<-j];simp<;>omega
  have ag:=fun W=>zac V s11 (by first|omega| (simp<;>omega)) W
  rw[j]at ag;have aA:=hid j;clear j;have HE:Hid (r=s12):=hid (by rw[ar.out,E.out.2.2,if_neg (by omega),aK.out,<-aA.out,<-ak.out];simp);have a5:=hid (an.out wc (g.out ⟨wc,HV.out.2⟩));clear hz;go_wp2_with fail;refine a5.out.mono ?_;rintro e w5 ⟨rfl,ab⟩;have aL:Hid (Below a.heap.size a w5):=hid (HV.out.2.trans (ab.mono HV.out.2.size));clear ab q9;go_wp2_with fail;refine(au.out _).mono ?_;rintro e w6 ⟨rfl,rfl⟩;go_wp2;go_ret;exact⟨by rw[HE.out]<;>rfl,HZ.out _ aL.out⟩
 ·have a0:¬(0:Int)<(nanos:Int):=by omega
  have HE:Hid (r=V):=hid (by rw[ar.out,E.out.2.2,if_pos (by omega)];simp);go_wp2;go_ret;exact⟨by rw[HE.out]<;>rfl,HZ.out _ HV.out.2⟩
theorem zvy (y m d h mi c nanos:Nat) (zh zm z:Int) (hy:y<=9999) (hm:m<=99) (hd:d<=99) (hh:h<=99) (hmi:mi<=99) (hc:c<=99) (hn:nanos<=999999999) (hn0:nanos=0) (w:World) (hT:UT w):
 Calls prog 128 #[.agg #[.int .i64 1,.int .i64 (y:Int),.int .i64 (m:Int),.int .i64 (d:Int),.int .i64 (h:Int),.int .i64 (mi:Int),.int .i64 (c:Int),.int .i64 zh,.int .i64 zm,.int .i64 (nanos:Int),.int .u8 z]] w fun e w'=>e=.returned (.string ⟨((dateS y m d):Gr.Str).toArray⟩)/\Below w.heap.size w w':=by
 simpa using ze9 1 y m d h mi c nanos zh zm z hy hm hd hh hmi hc hn (fun _=>hn0) w hT
theorem zvz (y m d h mi c nanos:Nat) (zh zm z:Int) (hy:y<=9999) (hm:m<=99) (hd:d<=99) (hh:h<=99) (hmi:mi<=99) (hc:c<=99) (hn:nanos<=999999999) (w:World) (hT:UT w):
 Calls prog 128 #[.agg #[.int .i64 2,.int .i64 (y:Int),.int .i64 (m:Int),.int .i64 (d:Int),.int .i64 (h:Int),.int .i64 (mi:Int),.int .i64 (c:Int),.int .i64 zh,.int .i64 zm,.int .i64 (nanos:Int),.int .u8 z]] w fun e w'=>e=.returned (.string ⟨((clkS h mi c nanos):Gr.Str).toArray⟩)/\Below w.heap.size w w':=by
 simpa using ze9 2 y m d h mi c nanos zh zm z hy hm hd hh hmi hc hn (by intro h;omega) w hT
theorem zpu (y m d h mi c nanos:Nat) (zh zm z:Int) (hy:y<=9999) (hm:m<=99) (hd:d<=99) (hh:h<=99) (hmi:mi<=99) (hc:c<=99) (hn:nanos<=999999999) (w:World) (hT:UT w):
 Calls prog 128 #[.agg #[.int .i64 3,.int .i64 (y:Int),.int .i64 (m:Int),.int .i64 (d:Int),.int .i64 (h:Int),.int .i64 (mi:Int),.int .i64 (c:Int),.int .i64 zh,.int .i64 zm,.int .i64 (nanos:Int),.int .u8 z]] w fun e w'=>e=.returned (.string ⟨((dateS y m d++[84]++clkS h mi c nanos):Gr.Str).toArray⟩)/\Below w.heap.size w w':=by
 simpa using ze9 3 y m d h mi c nanos zh zm z hy hm hd hh hmi hc hn (by intro h;omega) w hT
theorem zca (x n:Nat) (i j:Int) (hi:i=(x:Int)) (hj:j=(n:Int)) (hx:x<=999999999) (hn:n<=9) (w:World):
 Calls prog 139 #[.int .i64 i,.int .i64 j] w fun e w'=>e=.returned (.string ⟨(Gr.pd n x).toArray⟩)/\Below w.heap.size w w':=by
 subst hi;subst hj;go_enter func139,ntmps139;go_wp2_with fail;go_loopw [0,5,6] (fun s0 s5 s6 wr=>∃k y:Nat,k<=n/\y<=999999999/\s0=.int .i64 (y:Int)/\s5=.string ⟨(Gr.pd k x).toArray⟩/\s6=.int .i64 (k:Int)/\Hid (y=x /10 ^ k/\Below w.heap.size w wr)) (fun _ _ s6 _=>n-(intOf s6).toNat)
 case atStart=>exact⟨0,x,by omega,hx,rfl,rfl,rfl,Lib.hid ⟨by simp,Below.refl _ _⟩⟩
 case round=>
  obtain⟨k,y,hk,hy,rfl,rfl,rfl,l⟩:=hrel;have a:=Gr.za3 k x;by_cases hlt:k<n
  ·have g:(k:Int)<(n:Int):=by omega
   obtain⟨c,m⟩:∃c:UInt8,c=Gr.ch (y%10):=⟨_,rfl⟩
   have h:(48:Int)+(y:Int)%10=(c.toNat:Int):=by rw[m];unfold Gr.ch;rw[UInt8.toNat_ofNat'];omega
   have b:Hid (Gr.pd (k+1) x=[c]++Gr.pd k x/\y /10=x /10 ^ (k+1)):=Lib.hid ⟨by rw[Gr.zsd,<-l.out.1,<-m];rfl,by rw[l.out.1,Nat.div_div_eq_div_mul,Nat.pow_succ]⟩;have f:=fun W=>zac [c] (Gr.pd k x) (by rw[a];simp;omega) W
   have d:(convert 119 9 (.slice (some ⟨wr.heap.size,0,none⟩) 1 1)).run prog (wr.alloc (.cells #[.int .u8 (c.toNat:Int)] 5))=.ok (.string ⟨[c].toArray⟩) (wr.alloc (.cells #[.int .u8 (c.toNat:Int)] 5)):=zdt (B:=wr.heap.size+1) (wr.alloc (.cells #[.int .u8 (c.toNat:Int)] 5)) [c] (some ⟨wr.heap.size,0,none⟩) 1 (RowAt.lit1 c _ rfl _ rfl);rw[<-h]at d;obtain⟨p,o⟩:=ex (Gr.pd k x)
   rw[o]at f b ⊢;have hy10:(0:Int)<=(y:Int)%10:=by omega
   have hy11:(y:Int)%10<=9:=by omega
   clear h a o m;go_wp2;go_roundw
   case rel=>exact⟨k+1,y /10,by omega,by omega,by exact congrArg (Value.int .i64) (by omega),by rw[b.out.1];rfl,by go_num,Lib.hid ⟨b.out.2,l.out.2.alloc l.out.2.size _⟩⟩
   case measure=>simp[intOf];omega
  ·obtain rfl:k=n:=by omega
   have g:¬(k:Int)<(k:Int):=by omega
   clear a;go_wp2;go_ret;exact⟨rfl,l.out.2⟩
end Go.Proofs.YtoigpackhninoaaGreatDoor

import Derived.Test.YtpjmhafmeieloaaGreatDoorZ06
namespace Go.Proofs.YtpjmhafmeieloaaGreatDoor
open Gr
open _root_.Go.Proofs.Tryz
open _root_.Go.Lib (hid)
set_option maxRecDepth 100000
set_option maxHeartbeats 16000000
open Go.RowKit
def tlv:Nat->Code->Code
 | 0,c=>c
 |n+1,.seq _ b=>tlv n b
 |_+1,c=>c
section
variable {y:TL} {B D:Nat} {A:Option Addr} {c:Nat} {root:Int} {vs:List NV} {ns:List Gr.Nd}
theorem zsj (w:World) (s:Gr.TS) (vis:Gr.TS->Nat->Gr.TS) (sv zv:Value) (bA v x:Nat) (h:TAt y B D A c root vs ns w s sv zv) (hA:ABox y D w sv zv bA v) (hl:ns.length<=1073741823) (hv:v<ns.length) (hx:x<ns.length)
 (li:s.idx.length=ns.length) (ll:s.low.length=ns.length) (lo:s.on.length=ns.length) (hb1:s.lw v<=1073741824) (hb2:s.ix x<=1073741824)
 (hnew:s.ix x=0->(vis s x).low.length=ns.length/\(vis s x).lw v<=1073741824/\(vis s x).lw x<=1073741824/\Calls prog 59 (y.args (.int .i64 x)) w (TPost y B D A c root vs ns w sv zv (vis s x))):
 Calls prog 60 #[.int .i64 x,.pointer (some ⟨y.bI,0,none⟩),.pointer (some ⟨y.bV,0,none⟩),.pointer (some ⟨y.bL,0,none⟩),.pointer (some ⟨bA,0,none⟩),.pointer (some ⟨y.bO,0,none⟩)] w (TPost y B D A c root vs ns w sv zv (tstep vis v s x)):=by
 unfold tstep;by_cases hi:s.ix x=0
 .rw[if_pos hi];obtain⟨e,b,a,d⟩:=hnew hi;exact zsi w s (vis s x) sv zv bA v x h hA hl hv hx li e hi b a d
 .rw[if_neg hi];by_cases hon:s.onn x=true
  .rw[if_pos hon];exact zvm w s sv zv bA v x h hA hl hv hx li ll lo hi hon hb1 hb2
  .rw[if_neg hon];exact zsh w s sv zv bA x h hl hx li lo hi (by simpa using hon) hb2
theorem zow (hr:Refs ns) (hl:ns.length<=1073741823) {f:Nat} {s0:Gr.TS} {v:Nat} {G:Nat->Prop} (hI:Gr.Inv (Gr.succ ns) ns.length G s0) (hv:v<ns.length) (hv0:s0.ix v=0) (hg:∀g,G g->Gr.Reach (Gr.succ ns) g v) (hu:unv ns.length s0<=f+1)
 (ih:∀(s:Gr.TS) (v:Nat) (G:Nat->Prop) (w:World) (sv zv:Value),TAt y B D A c root vs ns w s sv zv->Gr.Inv (Gr.succ ns) ns.length G s->v<ns.length->s.ix v=0->(∀g,G g->Gr.Reach (Gr.succ ns) g v)->unv ns.length s<=f->
   Calls prog 59 (y.args (.int .i64 v)) w (TPost y B D A c root vs ns w sv zv (tvisit (Gr.succ ns) f s v)))
 {k:Nat} (hk:k<(Gr.succ ns v).length) (w:World) (sv zv:Value) (bA:Nat) (h:TAt y B D A c root vs ns w (((Gr.succ ns v).take k).foldl (tstep (tvisit (Gr.succ ns) f) v) (s0.push v)) sv zv) (hA:ABox y D w sv zv bA v):
 Calls prog 60 #[.int .i64 ((Gr.succ ns v)[k]:Nat),.pointer (some ⟨y.bI,0,none⟩),.pointer (some ⟨y.bV,0,none⟩),.pointer (some ⟨y.bL,0,none⟩),.pointer (some ⟨bA,0,none⟩),.pointer (some ⟨y.bO,0,none⟩)] w
  (TPost y B D A c root vs ns w sv zv (((Gr.succ ns v).take (k+1)).foldl (tstep (tvisit (Gr.succ ns) f) v) (s0.push v))):=by
 obtain⟨T,a,i⟩:=zeb hr.succ f s0 v hI hv hv0 hg hu k (by omega);have d:(Gr.succ ns v)[k]∈Gr.succ ns v:=List.getElem_mem hk;have m:=hr.succ v _ d;rw[List.take_succ_eq_append_getElem hk,List.foldl_append];obtain⟨x,o⟩:=ex ((Gr.succ ns v)[k])
 rw[o]at d m ⊢;obtain⟨s,q⟩:=ex (((Gr.succ ns v).take k).foldl (tstep (tvisit (Gr.succ ns) f) v) (s0.push v))
 rw[q]at h a i ⊢;have b:∀u,s.ix u<=1073741823:=fun u=>by have:=a.inv.nx u;have:=a.inv.bn;omega
 refine zsj w s (tvisit (Gr.succ ns) f) sv zv bA v x h hA hl hv m a.inv.li a.inv.ll a.inv.lo (by have:=a.lwv;have:=b v;omega) (by have:=b x;omega) (fun p=>?_);have l:∀g,(G g\/g=v)->Gr.Reach (Gr.succ ns) g x:=by
  rintro g (h1|rfl)
  .exact(hg g h1).trans (.one d)
  .exact .one d
 obtain⟨r,j,e⟩:=zgm hr.succ f s x (fun u=>G u\/u=v) a.inv m p l i;have n:s.ix v≠0:=by rw[a.ixv];omega
 refine⟨j.ll,?_,?_,ih s x _ w sv zv h a.inv m p l i⟩
 .rw[e.klw v n];have:=a.lwv;have:=b v;omega
 .by_cases hm:x∈r
  .obtain⟨z,_,h1,_⟩:=e.att hm;have:=b z;omega
  .rw[(e.out hm).2];have:=j.nx x;have:=j.bn;omega
theorem TF.reval {sv zv sv' zv' sv2:Value} {w w':World} (h:TF y sv zv w w' sv' zv') (e:sv2.ownBlock=sv'.ownBlock):TF y sv zv w w' sv2 zv':=⟨h.os,h.tape,h.output,h.size,h.block,fun k a=>h.fs k (e▸a),h.fz⟩
theorem TAt.tfBelow {w w':World} {s:Gr.TS} {sv zv sv' zv':Value} (h:TAt y B D A c root vs ns w s sv zv) (hf:TF y sv zv w w' sv' zv'):Below B w w':=by
 refine⟨hf.os,hf.tape,hf.output,hf.size,fun k hk=>?_⟩;obtain⟨l1,l2,l3,l4,l5,l6,l7,l8⟩:=h.ok.lo;have:=h.hd;exact hf.block k (by omega) (by omega) (by omega) (by omega) (by omega) (by omega) (by omega) (by omega) (h.svD (by omega)) (h.zvD (by omega))
theorem zl6 (hr:Refs ns) (hl:ns.length<=1073741823) (hks:∀n∈ns,n.keys.length<=1073741823/\n.items.length<=1073741823) {f:Nat} {s:Gr.TS} {v:Nat} {G:Nat->Prop} (hI:Gr.Inv (Gr.succ ns) ns.length G s) (hv:v<ns.length) (hv0:s.ix v=0) (hg:∀g,G g->Gr.Reach (Gr.succ ns) g v) (hu:unv ns.length s<=f+1)
 (ih:∀(s:Gr.TS) (v:Nat) (G:Nat->Prop) (w:World) (sv zv:Value),TAt y B D A c root vs ns w s sv zv->Gr.Inv (Gr.succ ns) ns.length G s->v<ns.length->s.ix v=0->(∀g,G g->Gr.Reach (Gr.succ ns) g v)->unv ns.length s<=f->
   Calls prog 59 (y.args (.int .i64 v)) w (TPost y B D A c root vs ns w sv zv (tvisit (Gr.succ ns) f s v)))
 (w wc:World) (sv zv sv1:Value) (bA:Nat) (hT:TAt y B D A c root vs ns wc {s with next:=s.next+1,idx:=s.idx.set v (s.next+1),low:=s.low.set v (s.next+1),stk:=s.stk++[v]} sv1 zv) (hF:TF y sv zv w wc sv1 zv) (hA:ABox y D wc sv1 zv bA v)
 {u11 u12 u13 u14 u15 u16 u17 u18 u19 u20 u21 u22 u23 u24 u25 u26 u27 u28 u29 u30 u31 u32 u33 u34 u35 u36 u37 u38 u39 u40 u41 u42 u43 u44 u45 u46 u47 u48 u49 u50 u51 u52 u53 u54 u55 u56 u57 u58 u59 u60 u61 u62 u63 u64 u65 u66 u67 u68 u69 u70 u71 u72 u73 u74 u75 u76 u77 u78 u79 u80 u81 u82 u83 u84 u85 u86 u87 u88 u89 u90 u91 u92 u93 u94 u95 u96 u97 u98 u99 u100 u101 u102:Value}:
 Code.wp prog (tlv 4 (f59.body.getD .skip)) (bodyPost prog f59 (TPost y B D A c root vs ns w sv zv (tvisit (Gr.succ ns) (f+1) s v))) {tmps:=List.toArray (.int .i64 v::.pointer (some ⟨y.bN,0,none⟩)::.pointer (some ⟨y.bI,0,none⟩)::.pointer (some ⟨y.bL,0,none⟩)::.pointer (some ⟨y.bS,0,none⟩)::.pointer (some ⟨y.bO,0,none⟩)::.pointer (some ⟨y.bV,0,none⟩)::.pointer (some ⟨y.bG,0,none⟩)::.pointer (some ⟨y.bZ,0,none⟩)::.pointer (some ⟨y.bC,0,none⟩)::.pointer (some ⟨bA,0,none⟩)::u11::u12::u13::u14::u15::u16::u17::u18::u19::u20::u21::u22::u23::u24::u25::u26::u27::u28::u29::u30::u31::u32::u33::u34::u35::u36::u37::u38::u39::u40::u41::u42::u43::u44::u45::u46::u47::u48::u49::u50::u51::u52::u53::u54::u55::u56::u57::u58::u59::u60::u61::u62::u63::u64::u65::u66::u67::u68::u69::u70::u71::u72::u73::u74::u75::u76::u77::u78::u79::u80::u81::u82::u83::u84::u85::u86::u87::u88::u89::u90::u91::u92::u93::u94::u95::u96::u97::u98::u99::u100::u101::u102::[]),defers:=[]} wc:=by
 generalize hc0:tlv 4 (f59.body.getD .skip)=c0;simp only[tlv,f59,Option.getD_some]at hc0;subst hc0;have hvI:(v:Int)<(ns.length:Int):=by omega
 have u:=hid (fun(k:Nat) (hk:k<(Gr.succ ns v).length)=>zow (y:=y) (B:=B) (D:=D) (A:=A) (c:=c) (root:=root) (vs:=vs) hr hl hI hv hv0 hg hu ih hk);have S:=hid (zeb hr.succ f s v hI hv hv0 hg hu);have HI:=hid hI;have P:=hid hT.ok;have r:Hid (tvisit (Gr.succ ns) (f+1) s v=tfin ((Gr.succ ns v).foldl (tstep (tvisit (Gr.succ ns) f) v) (s.push v)) v):=hid rfl;obtain⟨st,aQ⟩:∃st:Gr.TS->Nat->Gr.TS,tstep (tvisit (Gr.succ ns) f) v=st:=⟨_,rfl⟩
 rw[aQ]at u S r;have o0:wc.cell? ⟨y.bO,0,none⟩=some (.slice (some ⟨y.rO,0,none⟩) ns.length ns.length):=hT.xO.cell 0;have a0:wc.cell? ⟨bA,0,none⟩=some (.int .i64 (v:Int)):=hA.b.cell 0;have of:∀i,wc.frozen? ⟨y.rO,i,none⟩=false:=hT.rO.frozen;have ov:wc.cell? ⟨y.rO,v,none⟩=some (.bool (s.onn v)):=by rw[hT.rO.cell,zah (by show v<s.on.length;rw[HI.out.lo];exact hv)];rfl
 have HT:=hid hT;have HF:=hid hF;have HA:=hid hA;clear hT hF hA hI hg hu ih aQ;go_upto_region 6 with fail;obtain⟨M,ag⟩:=ex (wc.setCell ⟨y.rO,v,none⟩ (.bool true))
 have f4:TF y sv1 zv wc M sv1 zv:=by rw[<-ag];exact(TF.refl _ _ _ _).set y.rO v (by simp) _
 have h4:TAt y B D A c root vs ns M (s.push v) sv1 zv:=by rw[<-ag];exact HT.out.setO v true
 have am:=HA.out.kept P.out f4;have a6:=hid (HF.out.trans f4);(try rw[ag]);clear ag o0 a0 of ov HT HF HA f4;have aU:ns[v]∈ns:=List.getElem_mem hv;obtain⟨aq,aY⟩:=hks _ aU;have ap:Gr.succ ns v=ns[v].keys++ns[v].items:=by unfold Gr.succ;rw[List.getElem?_eq_getElem hv]
 obtain⟨z,k,i,rfl,hN⟩:=h4.at_.node hv;obtain⟨ka,kn,kc⟩:=k;obtain⟨ia,inn,ic⟩:=i;obtain⟨n,hn⟩:=ex (ns[v])
 rw[hn]at hN aq aY ap;obtain rfl:kn=n.keys.length:=hN.kn;obtain rfl:inn=n.items.length:=hN.inn;have Y:=hid ap;have x3:=hN.c3;have g0:M.cell? ⟨y.bG,0,none⟩=some (.slice (some z) ns.length c):=h4.xG.cell 0;have a0:M.cell? ⟨bA,0,none⟩=some (.int .i64 (v:Int)):=am.b.cell 0;have aH:=hid hN.keys;have ao:Hid (RowAt intL M B ia n.items/\M.cell? {block:=(z.add (v*5)).block,off:=(z.add (v*5)).off+4}=some (.slice ia n.items.length ic)/\(z.add (v*5)).block<B):=hid ⟨hN.items,hN.c4,hN.lt⟩;have H4:=hid h4;have ba:=hid am;clear hN h4 am hn aU ap;go_upto_region 7 with fail;clear x3 g0 a0;go_loopw [43] (fun s43 wr=>∃(k:Nat) (sk zk:Value),k<=n.keys.length/\s43=.int .i64 k/\Hid (TAt y B D (some z) c root vs ns wr (((Gr.succ ns v).take k).foldl st (s.push v)) sk zk/\TF y sv1 zv M wr sk zk/\ABox y D wr sk zk bA v)) (fun s43 _=>n.keys.length-(intOf s43).toNat)
 case atStart=>exact⟨0,sv1,zv,by omega,rfl,hid ⟨by simpa using H4.out,TF.refl _ _ _ _,ba.out⟩⟩
 case round=>
  obtain⟨k,sk,zk,hk,rfl,o⟩:=hrel;by_cases hlk:k<n.keys.length
  .have J:(k:Int)<(n.keys.length:Int):=by omega
   have E:k<(Gr.succ ns v).length:=by rw[Y.out,List.length_append];omega
   have F:(Gr.succ ns v)[k]=n.keys[k]:=by simp only[Y.out];exact List.getElem_append_left hlk
   obtain⟨x,hx⟩:=ex (n.keys[k])
   have hC:=u.out _ E wr sk zk bA o.out.1 o.out.2.2;rw[F,hx]at hC;obtain⟨aG,rfl,_,y0⟩:=zae (aH.out.below (H4.out.tfBelow o.out.2.1)) hlk;rw[hx]at y0;have HC:=hid hC;clear hC hx F E;go_wp2_with fail;refine HC.out.mono ?_;rintro e I ⟨rfl,t,C,Z,f5⟩;have O:Hid (TAt y B D (some z) c root vs ns I (((Gr.succ ns v).take (k+1)).foldl st (s.push v)) t C/\TF y sv1 zv M I t C/\ABox y D I t C bA v):=hid ⟨Z,o.out.2.1.trans f5,o.out.2.2.kept P.out f5⟩;clear Z f5;go_wp2;go_roundw
   case rel=>exact⟨k+1,t,C,by omega,by go_num,O⟩
   case measure=>simp[intOf];omega
  .have J:¬((k:Int)<(n.keys.length:Int)):=by omega
   have V:Hid (TAt y B D (some z) c root vs ns wr (((Gr.succ ns v).take (n.keys.length+0)).foldl st (s.push v)) sk zk/\TF y sv1 zv M wr sk zk/\ABox y D wr sk zk bA v):=hid (by
    have:=o.out;rw[show k=n.keys.length+0 from by omega]at this;exact this)
   have g0:wr.cell? ⟨y.bG,0,none⟩=some (.slice (some z) ns.length c):=V.out.1.xG.cell 0;have a0:wr.cell? ⟨bA,0,none⟩=some (.int .i64 (v:Int)):=V.out.2.2.b.cell 0;have x4:wr.cell? {block:=(z.add (v*5)).block,off:=(z.add (v*5)).off+4}=some (.slice ia n.items.length ic):=by
    rw[(H4.out.tfBelow V.out.2.1).cell (by exact ao.out.2.2)];exact ao.out.2.1
   clear o hk hlk aH;go_upto_region 12 with fail;clear g0 a0 x4 J;go_loopw [58] (fun s58 wr=>∃(k:Nat) (sk zk:Value),k<=n.items.length/\s58=.int .i64 k/\Hid (TAt y B D (some z) c root vs ns wr (((Gr.succ ns v).take (n.keys.length+k)).foldl st (s.push v)) sk zk/\TF y sv1 zv M wr sk zk/\ABox y D wr sk zk bA v)) (fun s58 _=>n.items.length-(intOf s58).toNat)
   case atStart=>exact⟨0,sk,zk,by omega,rfl,V⟩
   case round=>
    clear V;obtain⟨k,sk,zk,hk,rfl,o⟩:=hrel;by_cases hlk:k<n.items.length
    .have J:(k:Int)<(n.items.length:Int):=by omega
     have E:n.keys.length+k<(Gr.succ ns v).length:=by rw[Y.out,List.length_append];omega
     have F:(Gr.succ ns v)[n.keys.length+k]=n.items[k]:=by simp only[Y.out];rw[List.getElem_append_right (by omega)];congr 1;omega
     obtain⟨x,hx⟩:=ex (n.items[k])
     have hC:=u.out _ E wr sk zk bA o.out.1 o.out.2.2;rw[F,hx]at hC;obtain⟨aG,rfl,_,y0⟩:=zae (ao.out.1.below (H4.out.tfBelow o.out.2.1)) hlk;rw[hx]at y0;have HC:=hid hC;clear hC hx F E;go_wp2_with fail;refine HC.out.mono ?_;rintro e I ⟨rfl,t,C,Z,f5⟩;have O:Hid (TAt y B D (some z) c root vs ns I (((Gr.succ ns v).take (n.keys.length+(k+1))).foldl st (s.push v)) t C/\TF y sv1 zv M I t C/\ABox y D I t C bA v):=hid ⟨Z,o.out.2.1.trans f5,o.out.2.2.kept P.out f5⟩;clear Z f5;go_wp2;go_roundw
     case rel=>exact⟨k+1,t,C,by omega,by go_num,O⟩
     case measure=>simp[intOf];omega
    .have J:¬((k:Int)<(n.items.length:Int)):=by omega
     have aA:(Gr.succ ns v).length=n.keys.length+n.items.length:=by rw[Y.out,List.length_append]
     obtain⟨q,hq⟩:=ex ((Gr.succ ns v).foldl st (s.push v))
     have HQ:Hid (TAt y B D (some z) c root vs ns wr q sk zk/\TF y sv1 zv M wr sk zk/\ABox y D wr sk zk bA v):=hid (by
      have:=o.out;rw[show n.keys.length+k=(Gr.succ ns v).length from by omega,List.take_length,hq]at this;exact this)
     have R:Hid (∃T,Gr.Loop (Gr.succ ns) ns.length G s q v T (Gr.succ ns v)):=hid (by
      obtain⟨T,hT,_⟩:=S.out (Gr.succ ns v).length (Nat.le_refl _);rw[List.take_length,hq]at hT;exact⟨T,hT⟩)
     rw[hq]at r;clear hq aA o hk hlk u S;have az:Hid (TF y sv zv w wr sk zk):=hid (a6.out.trans HQ.out.2.1);have HB:Hid (q.low.length=ns.length/\q.idx.length=ns.length/\q.ix v<=1073741823/\q.lw v<=1073741823/\q.on.length=ns.length/\q.inn.length=ns.length/\q.stk.length<=1073741823/\q.sizes.length<=1073741823):=hid (by
      obtain⟨T,hT⟩:=R.out;have h1:=hT.inv.nx v;have h2:=hT.inv.bn;have h3:=hT.lwv;have h4:=hT.inv.bz;exact⟨hT.inv.ll,hT.inv.li,by omega,by omega,hT.inv.lo,hT.inv.lc,by omega,by omega⟩)
     obtain⟨qi,U⟩:=ex (q.ix v)
     obtain⟨ql,aa⟩:=ex (q.lw v)
     have i0:wr.cell? ⟨y.bI,0,none⟩=some (.slice (some ⟨y.rI,0,none⟩) ns.length ns.length):=HQ.out.1.xI.cell 0;have l0:wr.cell? ⟨y.bL,0,none⟩=some (.slice (some ⟨y.rL,0,none⟩) ns.length ns.length):=HQ.out.1.xL.cell 0;have a0:wr.cell? ⟨bA,0,none⟩=some (.int .i64 (v:Int)):=HQ.out.2.2.b.cell 0;have iv:wr.cell? ⟨y.rI,v,none⟩=some (.int .i64 (qi:Int)):=by rw[HQ.out.1.rI.cell,zad (by rw[HB.out.2.1];exact hv),<-U];rfl
     have lv:wr.cell? ⟨y.rL,v,none⟩=some (.int .i64 (ql:Int)):=by rw[HQ.out.1.rL.cell,zad (by rw[HB.out.1];exact hv),<-aa];rfl
     by_cases he:ql=qi
     .subst he;have X:Hid (tvisit (Gr.succ ns) (f+1) s v=q.close v):=hid (by rw[r.out];unfold tfin;rw[if_pos (by rw[U,aa])]);clear U aa r;go_upto_region 16 with fail;go_quiet (fail);go_upto_region 18 with fail;obtain⟨T,hT⟩:=R.out;have av:v∉T:=by
       have h1:=zea hT.inv.ord;rw[hT.stk,List.nodup_append]at h1;exact(List.nodup_cons.1 h1.2.1).1
      have aC:=hid hT.stk;have a5:=hid (zr9 hT.stk);have aX:=hid (zr8 hT.stk av);have a1:Hid (∀x∈v::T,x<ns.length):=hid (fun x hx=>(hT.inv.stv x (by rw[hT.stk];exact List.mem_append_right _ hx)).1);have bb:=hid av;have hTl:T.length<=1073741823:=by have:=HB.out.2.2.2.2.2.2.1;rw[hT.stk]at this;simp at this;omega
      obtain⟨j,m,a4,_⟩:=HQ.out.1.siz.form;subst a4;clear hT av i0 l0 a0 iv lv;go_loopw [16] (fun s16 wp=>∃(k:Nat) (sk2:Value),k<=T.length/\s16=.int .i64 k/\Hid (TAt y B D (some z) c root vs ns wp ((T.reverse.take k).foldl Gr.TS.drop1 q) sk2 (.slice j q.sizes.length m)/\TF y sv zv w wp sk2 (.slice j q.sizes.length m)/\ABox y D wp sk2 (.slice j q.sizes.length m) bA v)) (fun s16 _=>T.length+1-(intOf s16).toNat)
      case atStart=>exact⟨0,sk,by omega,rfl,hid ⟨by simpa using HQ.out.1.drewN _,az.out.drewN _,HQ.out.2.2.kept P.out ((TF.refl _ _ _ _).drewN _)⟩⟩
      case round=>
       obtain⟨k,sk2,hk,rfl,o⟩:=hrel;obtain⟨d1,d2,d3,d4⟩:=a5.out k hk;obtain⟨L,x,ax,aV,aM⟩:∃L x,s.stk++v::T.take (T.length-k)=L++[x]/\((k=T.length/\x=v)\/(k<T.length/\x≠v/\T.reverse.take (k+1)=T.reverse.take k++[x]))/\x<ns.length:=by
        by_cases hkT:k<T.length
        .refine⟨s.stk++v::T.take (T.length-(k+1)),T[T.length-(k+1)]'(by omega),?_,.inr ⟨hkT,fun e=>bb.out (e▸List.getElem_mem _),?_⟩,a1.out _ (.tail _ (List.getElem_mem _))⟩
         .have:=List.take_succ_eq_append_getElem (l:=T) (i:=T.length-(k+1)) (by omega);rw[show T.length-(k+1)+1=T.length-k from by omega]at this;rw[this];simp
         .have aq:k<T.reverse.length:=by simpa using hkT
          rw[List.take_succ_eq_append_getElem aq]
          congr 2
          rw[List.getElem_reverse]
          congr 1
          omega
        .refine⟨s.stk,v,?_,.inl ⟨by omega,rfl⟩,hv⟩;rw[show T.length-k=0 from by omega];simp
       rw[ax]at d1;obtain⟨p,hp⟩:=ex ((T.reverse.take k).foldl Gr.TS.drop1 q)
       rw[hp]at d1 d2 d3 d4;have K:TAt y B D (some z) c root vs ns wr p sk2 (.slice j q.sizes.length m):=by have:=o.out.1;rw[hp]at this;exact this
       have d:=K.stk;rw[d1]at d;obtain⟨g,a,H,aj⟩:=d.shape (by simp);rw[List.length_append,List.length_cons,List.length_nil]at H aj;obtain⟨h,ae⟩:=ex L.length
       rw[ae]at H aj;obtain⟨A',c',ar,ay⟩:=d.form;have aZ:A'=some ⟨g,0,none⟩:=by rw[H]at ar;injection ar with e1 _ _;exact e1.symm
       subst aZ;obtain⟨aG,e2,_,y0⟩:=zae (k:=h) ay (by simp;omega);injection e2 with e2
       subst e2;have aJ:(L++[x])[h]'(by simp;omega)=x:=by subst ae;simp
       rw[aJ]at y0;have y1:wr.cell? ⟨g,h,none⟩=some (.int .i64 (x:Int)):=by
        have e:(⟨g,0,none⟩:Addr).add h=⟨g,h,none⟩:=by unfold Addr.add;split<;>simp_all
        rwa[e]at y0
       have s0:wr.cell? ⟨y.bS,0,none⟩=some (.slice (some ⟨g,0,none⟩) (h+1) a):=by rw[K.bS.cell 0];show some sk2=_;rw[H]
       have sf:∀i,wr.frozen? ⟨y.bS,i,none⟩=false:=K.bS.frozen;have t1:((h:Int)+1-1)=(h:Int):=by omega
       have a2:=fun W=>zsg g (h+1) a h (by omega) W
       have hcapI:(h:Int)+1<=(a:Int):=by omega
       have hnb:h<=1073741823:=by
        have h1:=HB.out.2.2.2.2.2.2.1;have h2:(s.stk++v::T.take (T.length-k)).length=(L++[x]).length:=by rw[ax]
        rw[aC.out]at h1;simp at h1 h2;omega
       have hxI:(x:Int)<(ns.length:Int):=by omega
       have aD:OwnRow intL wr D 3 (.slice (some ⟨g,0,none⟩) h a) L:=by
        have h1:OwnRow intL wr D 3 (.slice (some ⟨g,0,none⟩) (h+1) a) (L++[x]):=by rw[<-H];exact d
        have:=h1.drop1;rwa[ae]at this
       have au:(Value.slice (some ⟨g,0,none⟩) h a).ownBlock=sk2.ownBlock:=by rw[H];rfl
       have aL:∀k,(Value.slice (some ⟨g,0,none⟩) h a).ownBlock=some k->(Value.slice j q.sizes.length m).ownBlock≠some k:=fun k e=>K.apart k (au▸e)
       have aN:=hid K;have aS:=hid aD;have aB:=hid au;have aT:=hid aL;have HD:Hid (p.sizes=q.sizes/\p.on.length=ns.length/\p.inn.length=ns.length/\p.stk=L++[x]):=hid ⟨d2,d3.trans HB.out.2.2.2.2.1,d4.trans HB.out.2.2.2.2.2.1,d1⟩;have aF:=hid hp;have aR:=hid aV;clear aD au aL K d ar ay y0 aJ H ae d1 d2 d3 d4 hp ax aV;go_upto_region 20 with fail;obtain⟨I,af⟩:=ex (wr.setCell ⟨y.bS,0,none⟩ (.slice (some ⟨g,0,none⟩) h a))
       have Z:TAt y B D (some z) c root vs ns I {p with stk:=L} (.slice (some ⟨g,0,none⟩) h a) (.slice j q.sizes.length m):=by rw[<-af];exact aN.out.setS aS.out aT.out
       have f5:TF y sk2 (.slice j q.sizes.length m) wr I (.slice (some ⟨g,0,none⟩) h a) (.slice j q.sizes.length m):=by rw[<-af];exact((TF.refl _ _ _ _).set y.bS 0 (by simp) _).reval aB.out
       (try rw[af]);have o0:I.cell? ⟨y.bO,0,none⟩=some (.slice (some ⟨y.rO,0,none⟩) ns.length ns.length):=Z.xO.cell 0;have ov:I.cell? ⟨y.rO,x,none⟩=some (.bool (p.on.getD x false)):=by rw[Z.rO.cell,zah (by rw[HD.out.2.1];exact aM)]
       have of:∀i,I.frozen? ⟨y.rO,i,none⟩=false:=Z.rO.frozen;have H5:=hid Z;have F5:=hid f5;clear af Z f5 s0 sf y1 a2 aN aS aT aB;go_upto_region 21 with fail;obtain⟨w6,ah⟩:=ex (I.setCell ⟨y.rO,x,none⟩ (.bool false))
       have h6:TAt y B D (some z) c root vs ns w6 {p with stk:=L,on:=p.on.set x false} (.slice (some ⟨g,0,none⟩) h a) (.slice j q.sizes.length m):=by rw[<-ah];exact H5.out.setO x false
       have f6:TF y sk2 (.slice j q.sizes.length m) wr w6 (.slice (some ⟨g,0,none⟩) h a) (.slice j q.sizes.length m):=by rw[<-ah];exact F5.out.set y.rO x (by simp) _
       (try rw[ah]);have c0:w6.cell? ⟨y.bC,0,none⟩=some (.slice (some ⟨y.rC,0,none⟩) ns.length ns.length):=h6.xC.cell 0;have z0:w6.cell? ⟨y.bZ,0,none⟩=some (.slice j q.sizes.length m):=h6.bZ.cell 0;have cv:w6.cell? ⟨y.rC,x,none⟩=some (.int .i64 (p.inn.getD x (-1))):=by rw[h6.rC.cell,zb3 (by rw[HD.out.2.2.1];exact aM)]
       have cf:∀i,w6.frozen? ⟨y.rC,i,none⟩=false:=h6.rC.frozen;have H6:=hid h6;have F6:=hid f6;clear ah h6 f6 o0 ov of H5 F5;go_upto_region 22 with fail;obtain⟨w7,ac⟩:=ex (w6.setCell ⟨y.rC,x,none⟩ (.int .i64 (q.sizes.length:Int)))
       have h7:TAt y B D (some z) c root vs ns w7 (p.drop1 x) (.slice (some ⟨g,0,none⟩) h a) (.slice j q.sizes.length m):=by
        have:=H6.out.setC x (q.sizes.length:Int);rw[ac]at this;have e:p.drop1 x={p with stk:=L,on:=p.on.set x false,inn:=p.inn.set x (q.sizes.length:Int)}:=by
         unfold Gr.TS.drop1;rw[HD.out.2.2.2,HD.out.1,List.dropLast_concat]
        rw[e];exact this
       have f7:TF y sk2 (.slice j q.sizes.length m) wr w7 (.slice (some ⟨g,0,none⟩) h a) (.slice j q.sizes.length m):=by rw[<-ac];exact F6.out.set y.rC x (by simp) _
       (try rw[ac]);have an:=o.out.2.2.kept P.out f7;have a0:w7.cell? ⟨bA,0,none⟩=some (.int .i64 (v:Int)):=an.b.cell 0;have aE:=hid an;have H7:=hid h7;have F7:=hid f7;clear ac h7 f7 c0 z0 cv cf H6 F6 an;by_cases hkT:k<T.length
       .have Q:=aR.out.resolve_left (fun e=>by omega);have ab:¬((x:Int)=(v:Int)):=by have:=Q.2.1;omega
        have aW:((x:Int)==(v:Int))=false:=by simpa using ab
        have O:Hid (TAt y B D (some z) c root vs ns w7 ((T.reverse.take (k+1)).foldl Gr.TS.drop1 q) (.slice (some ⟨g,0,none⟩) h a) (.slice j q.sizes.length m)/\TF y sv zv w w7 (.slice (some ⟨g,0,none⟩) h a) (.slice j q.sizes.length m)/\ABox y D w7 (.slice (some ⟨g,0,none⟩) h a) (.slice j q.sizes.length m) bA v):=hid ⟨by
         rw[Q.2.2,List.foldl_append,aF.out];exact H7.out,o.out.2.1.trans F7.out,aE.out⟩
        clear Q o;go_wp2;go_roundw
        case rel=>exact⟨k+1,_,by omega,by go_num,O⟩
        case measure=>simp[intOf];omega
       .have Q:=aR.out.resolve_right (fun e=>hkT e.1);obtain⟨ai,F⟩:=Q;have ab:(x:Int)=(v:Int):=by omega
        have aW:((x:Int)==(v:Int))=true:=by simpa using ab
        have HX:Hid (q.close v={(p.drop1 x)with sizes:=q.sizes++[k+1]}):=hid (by
         rw[aX.out,<-aF.out,F,ai,List.take_of_length_le (by simp)])
        have a7:=hid (o.out.2.1.trans F7.out);have HO:Hid (OwnRow intL w7 D 3 (.slice j q.sizes.length m) q.sizes):=hid (by have:=H7.out.siz;rw[show(p.drop1 x).sizes=q.sizes from HD.out.1]at this;exact this);have z0:w7.cell? ⟨y.bZ,0,none⟩=some (.slice j q.sizes.length m):=H7.out.bZ.cell 0;have e0:=World.new_ne w7 _ z0;have hDw:=H7.out.hd;have hqs:q.sizes.length<=1073741823:=HB.out.2.2.2.2.2.2.2;clear F hkT o ai aE;go_upto_region 24 with fail;go_wp2_with (at_builtin;go_must (refine zab _ rfl (.tmp 99) (.tmp 101) 34 3 8 rfl intT D (.slice j q.sizes.length m) q.sizes rfl (HO.out.alloc _) _ _ 1 [k+1] rfl (RowAt.lit1 _ _ rfl _ ?_) ?_ ?_ ?_))
        any_goals (first|rfl|omega| (simp;omega)| (rw[World.size_alloc];omega))
        intro v' w8 d hg aP;have N:=H7.out.alloc (.cells #[.int .i64 ((k:Int)+1)] 3);have aw:Blk w8 y.bZ 34 _:=N.bZ.grown hg (fun e=>zbx N.siz N.bZ (by decide) e.symm);have pc3:w8.cell? ⟨y.bZ,0,none⟩=some (.slice j q.sizes.length m):=aw.cell 0;have pf3:∀i,w8.frozen? ⟨y.bZ,i,none⟩=false:=aw.frozen;obtain⟨g3,al,aI,_⟩:=d.shape (by simp);obtain⟨n3,aK⟩:=ex ((q.sizes++[k+1]).length)
        rw[aK]at aI;subst aI;have aO:=hid N;have a8:=hid d;have HG:=hid hg;have a9:=hid aP;clear N d hg aP aw aK;go_wp2_with fail;go_end0;have ak:(Value.slice (some ⟨g3,0,none⟩) n3 al).ownBlock=(Value.slice j q.sizes.length m).ownBlock\/(Value.slice (some ⟨g3,0,none⟩) n3 al).ownBlock=some (w7.alloc (.cells #[.int .i64 ((k:Int)+1)] 3)).heap.size:=by rw[World.size_alloc];exact a9.out
        have f8:=(a7.out.alloc (.cells #[.int .i64 ((k:Int)+1)] 3)).trans (TF.grownZ aO.out HG.out ak);have h8:=aO.out.grownZ a8.out HG.out ak;rw[X.out,HX.out];exact⟨rfl,_,_,h8,f8⟩
     .have a3:¬((ql:Int)=(qi:Int)):=by omega
      have hneb:((ql:Int)==(qi:Int))=false:=by simpa using a3
      have X:Hid (tvisit (Gr.succ ns) (f+1) s v=q):=hid (by rw[r.out];unfold tfin;rw[if_neg (by rw[U,aa];exact he)]);clear U aa r he;go_upto_region 16 with fail;go_quiet (fail);go_wp2_with fail;refine bodyPost_ret (v:=.tuple #[]) (by simp[results,results59,go_sem]) rfl ?_;rw[X.out];exact⟨rfl,sk,zk,HQ.out.1.drewN _,az.out.drewN _⟩
end
theorem zdq (date time zone:Bool) (y m d h mi c nanos:Nat) (off:Int) (late:Bool) (hy:y<=999999999) (hm:m<=999999999) (hd:d<=999999999) (hh:h<=999999999) (hmi:mi<=999999999) (hc:c<=999999999) (hn:nanos<=999999999) (w:World):
 Calls prog 154 #[.agg #[.bool date,.bool time,.bool zone,.int .i64 (y:Int),.int .i64 (m:Int),.int .i64 (d:Int),.int .i64 (h:Int),.int .i64 (mi:Int),.int .i64 (c:Int),.int .i64 (nanos:Int),.int .i64 off,.bool late]] w fun e w'=>e=.returned (.string ⟨((if date=true then dateS y m d else[])++(if(date && time)=true then[84]else[])++(if time=true then clkS h mi c nanos else[])++(if zone=true then[90]else[]):Gr.Str).toArray⟩)/\Below w.heap.size w w':=by
 have T:=hid (fun W=>zcf y 4 (y:Int) 4 rfl rfl (by omega) (by omega) W);have aH:=za4 4 y;have af:=hid (fun W=>zcf m 2 (m:Int) 2 rfl rfl (by omega) (by omega) W);have aA:=za4 2 m;have N:=hid (fun W=>zcf d 2 (d:Int) 2 rfl rfl (by omega) (by omega) W);have aN:=za4 2 d;have ae:=hid (fun W=>zcf h 2 (h:Int) 2 rfl rfl (by omega) (by omega) W);have aF:=za4 2 h;have ag:=hid (fun W=>zcf mi 2 (mi:Int) 2 rfl rfl (by omega) (by omega) W);have ar:=za4 2 mi;have ac:=hid (fun W=>zcf c 2 (c:Int) 2 rfl rfl (by omega) (by omega) W);have ak:=za4 2 c;have ap:=hid (fun W=>zcf nanos 9 (nanos:Int) 9 rfl rfl (by omega) (by omega) W);have aI:=za4 9 nanos;obtain⟨py,aa⟩:=ex (Gr.pd 4 y)
 rw[aa]at T aH;obtain⟨pm,O⟩:=ex (Gr.pd 2 m)
 rw[O]at af aA;obtain⟨pd,M⟩:=ex (Gr.pd 2 d)
 rw[M]at N aN;obtain⟨ph,ab⟩:=ex (Gr.pd 2 h)
 rw[ab]at ae aF;obtain⟨pi,R⟩:=ex (Gr.pd 2 mi)
 rw[R]at ag ar;obtain⟨pc,P⟩:=ex (Gr.pd 2 c)
 rw[P]at ac ak;obtain⟨K,E⟩:=ex (Gr.pd 9 nanos)
 rw[E]at ap aI;have F:Hid (dateS y m d=py++[45]++pm++[45]++pd/\clkS h mi c nanos=ph++[58]++pi++[58]++pc++(if nanos=0 then([]:Gr.Str)else 46::trimZ K)/\Gr.pd 9 nanos=K):=hid ⟨by simp only[dateS,aa,O,M];simp,by simp only[clkS,nanoS,ab,R,P,E];simp,E⟩;clear aa O M ab R P E;obtain⟨r,hr⟩:∃r:Gr.Str,((if date=true then dateS y m d else[])++(if(date && time)=true then[84]else[])++(if time=true then clkS h mi c nanos else[])++(if zone=true then[90]else[]))=r:=⟨_,rfl⟩
 have aL:=hid hr;rw[hr];clear hr;obtain⟨p,u⟩:=ex w.heap.size
 obtain⟨a,Y⟩:∃a,a=w.alloc (.cells #[.bool date,.bool time,.bool zone,.int .i64 (y:Int),.int .i64 (m:Int),.int .i64 (d:Int),.int .i64 (h:Int),.int .i64 (mi:Int),.int .i64 (c:Int),.int .i64 (nanos:Int),.int .i64 off,.bool late] 162):=⟨_,rfl⟩
 have b:Hid (Blk a p 162 (T12 date time zone (y:Int) (m:Int) (d:Int) (h:Int) (mi:Int) (c:Int) (nanos:Int) off late)/\Below p w a):=hid (by rw[Y,<-u];exact⟨Blk.new _ _ _,(Below.refl _ _).alloc (Nat.le_refl _) _⟩);have a4:=hid u;have aC:Hid (∀W:WB a.heap.size a,Calls prog 184 #[.int .i64 (y:Int),.int .i64 4] W.w fun e w'=>e=.returned (.string ⟨py.toArray⟩)/\Below a.heap.size a w'):=hid (fun W=>(T.out W.w).mono (fun _ _ ⟨q,s⟩=>⟨q,W.h.trans (s.mono W.h.size)⟩));have aM:Hid (∀W:WB a.heap.size a,Calls prog 184 #[.int .i64 (m:Int),.int .i64 2] W.w fun e w'=>e=.returned (.string ⟨pm.toArray⟩)/\Below a.heap.size a w'):=hid (fun W=>(af.out W.w).mono (fun _ _ ⟨q,s⟩=>⟨q,W.h.trans (s.mono W.h.size)⟩));have an:Hid (∀W:WB a.heap.size a,Calls prog 184 #[.int .i64 (d:Int),.int .i64 2] W.w fun e w'=>e=.returned (.string ⟨pd.toArray⟩)/\Below a.heap.size a w'):=hid (fun W=>(N.out W.w).mono (fun _ _ ⟨q,s⟩=>⟨q,W.h.trans (s.mono W.h.size)⟩));have ah:Hid (∀W:WB a.heap.size a,Calls prog 184 #[.int .i64 (h:Int),.int .i64 2] W.w fun e w'=>e=.returned (.string ⟨ph.toArray⟩)/\Below a.heap.size a w'):=hid (fun W=>(ae.out W.w).mono (fun _ _ ⟨q,s⟩=>⟨q,W.h.trans (s.mono W.h.size)⟩));have aq:Hid (∀W:WB a.heap.size a,Calls prog 184 #[.int .i64 (mi:Int),.int .i64 2] W.w fun e w'=>e=.returned (.string ⟨pi.toArray⟩)/\Below a.heap.size a w'):=hid (fun W=>(ag.out W.w).mono (fun _ _ ⟨q,s⟩=>⟨q,W.h.trans (s.mono W.h.size)⟩));have av:Hid (∀W:WB a.heap.size a,Calls prog 184 #[.int .i64 (c:Int),.int .i64 2] W.w fun e w'=>e=.returned (.string ⟨pc.toArray⟩)/\Below a.heap.size a w'):=hid (fun W=>(ac.out W.w).mono (fun _ _ ⟨q,s⟩=>⟨q,W.h.trans (s.mono W.h.size)⟩));clear T af N ae ag ac;go_enter func154,ntmps154;go_upto_region 2 with fail;(try rw[<-Y]);(try rw[u]);clear Y u;have q0:a.cell? ⟨p,0,none⟩=some (.bool date):=(b.out.1.below (Below.refl _ _) b.out.1.lt).cell 0;go_upto_if 6 with fail;go_cut [3] (fun s3 wx=>∃S:Gr.Str,s3=.string ⟨S.toArray⟩/\S.length<=60/\Hid (S=(if date=true then dateS y m d else[])/\Below a.heap.size a wx))
 case first=>
  cases date with
  |true=>
   go_upto_region 3 with fail;clear q0;have p3:∀W:WB a.heap.size a,W.w.cell? ⟨p,3,none⟩=some (.int .i64 (y:Int)):=fun W=>(b.out.1.below W.h b.out.1.lt).cell 3
   have p4:∀W:WB a.heap.size a,W.w.cell? ⟨p,4,none⟩=some (.int .i64 (m:Int)):=fun W=>(b.out.1.below W.h b.out.1.lt).cell 4
   have p5:∀W:WB a.heap.size a,W.w.cell? ⟨p,5,none⟩=some (.int .i64 (d:Int)):=fun W=>(b.out.1.below W.h b.out.1.lt).cell 5
   obtain⟨s1,G⟩:∃x:Gr.Str,py++[45]=x:=⟨_,rfl⟩
   have Ls1:s1.length<=20:=by rw[<-G];simp<;>omega
   have a2:=fun W=>zac py [45] (by first|omega| (simp<;>omega)) W
   rw[G]at a2;have aT:=hid G;clear G;obtain⟨s2,v⟩:∃x:Gr.Str,s1++pm=x:=⟨_,rfl⟩
   have Ls2:s2.length<=30:=by rw[<-v];simp<;>omega
   have a8:=fun W=>zac s1 pm (by first|omega| (simp<;>omega)) W
   rw[v]at a8;have aW:=hid v;clear v;obtain⟨s3,B⟩:∃x:Gr.Str,s2++[45]=x:=⟨_,rfl⟩
   have Ls3:s3.length<=40:=by rw[<-B];simp<;>omega
   have a7:=fun W=>zac s2 [45] (by first|omega| (simp<;>omega)) W
   rw[B]at a7;have aO:=hid B;clear B;obtain⟨s4,z⟩:∃x:Gr.Str,s3++pd=x:=⟨_,rfl⟩
   have a9:s4.length<=60:=by rw[<-z];simp<;>omega
   have a3:=fun W=>zac s3 pd (by first|omega| (simp<;>omega)) W
   rw[z]at a3;have a6:=hid z;clear z;refine zaa a.heap.size a (by kernel_rfl) (by kernel_rfl) (Below.refl _ _) ?_
   iterate 14 (try go_big_quiet_step ((first| (with_reducible refine Calls.grow (aC.out _))| (with_reducible refine Calls.grow (aM.out _))| (with_reducible refine Calls.grow (an.out _)))))
   refine wpQuiet_nil ?_;rintro _ ⟨wz,rfl⟩;go_wp2;go_meet;exact⟨s4,rfl,a9,hid ⟨by rw[if_pos trivial,F.out.1,<-a6.out,<-aO.out,<-aW.out,<-aT.out],wz.h⟩⟩
  |false=>
   go_wp2;go_meet;exact⟨[],rfl,by simp,hid ⟨rfl,Below.refl _ _⟩⟩
 case rest=>
 obtain⟨S,rfl,hS,HS⟩:=hcut;clear q0;obtain⟨q0,q1⟩:=cells2 (b.out.1.below HS.out.2 b.out.1.lt);go_upto_region 4 with fail;obtain⟨wk,ad⟩:∃wk,wk=wc:=⟨_,rfl⟩
 subst ad;go_cut [25] (fun s25 wx=>s25=.bool (date && time)/\wx=wk)
 case first=>
  cases date<;>cases time
  all_goals
   go_wp2;go_meet;exact⟨rfl,rfl⟩
 case rest=>
 obtain⟨rfl,rfl⟩:=hcut;obtain⟨wk,ad⟩:∃wk,wk=wc:=⟨_,rfl⟩
 subst ad;go_upto_if 25 with fail;obtain⟨dt,Q⟩:=ex (date && time)
 have aB:=hid Q;(try rw[Q]);clear Q;go_cut [3] (fun s3 wx=>∃U:Gr.Str,s3=.string ⟨U.toArray⟩/\U.length<=61/\Hid (U=S++(if(date && time)=true then[84]else[])/\wx=wk))
 case first=>
  cases dt with
  |true=>
   obtain⟨s5,t⟩:∃x:Gr.Str,S++[84]=x:=⟨_,rfl⟩
   have aY:s5.length<=61:=by rw[<-t];simp<;>omega
   have aP:=fun W=>zac S [84] (by first|omega| (simp<;>omega)) W
   rw[t]at aP;have aX:=hid t;clear t;go_wp2;go_meet;exact⟨s5,rfl,aY,hid ⟨by rw[aB.out,if_pos rfl,aX.out],rfl⟩⟩
  |false=>
   go_wp2;go_meet;exact⟨S,rfl,by omega,hid ⟨by rw[aB.out];simp,rfl⟩⟩
 case rest=>
 obtain⟨U,rfl,hU,HU⟩:=hcut;obtain⟨wm,aV⟩:∃wm,wm=wc:=⟨_,rfl⟩
 subst aV;have Z:Hid (Below a.heap.size a wm):=hid (by rw[HU.out.2];exact HS.out.2);clear q0 q1;have q1:wm.cell? ⟨p,1,none⟩=some (.bool time):=(b.out.1.below Z.out b.out.1.lt).cell 1;go_upto_region 6 with fail;go_upto_if 29 with fail;go_cut [3] (fun s3 wx=>∃V:Gr.Str,s3=.string ⟨V.toArray⟩/\V.length<=200/\Hid (V=U++(if time=true then clkS h mi c nanos else[])/\Below a.heap.size a wx))
 case first=>
  cases time with
  |false=>
   go_wp2;go_meet;exact⟨U,rfl,by omega,hid ⟨by simp,Z.out⟩⟩
  |true=>
   go_upto_region 7 with fail;clear q1;have p6:∀W:WB a.heap.size a,W.w.cell? ⟨p,6,none⟩=some (.int .i64 (h:Int)):=fun W=>(b.out.1.below W.h b.out.1.lt).cell 6
   have p7:∀W:WB a.heap.size a,W.w.cell? ⟨p,7,none⟩=some (.int .i64 (mi:Int)):=fun W=>(b.out.1.below W.h b.out.1.lt).cell 7
   have p8:∀W:WB a.heap.size a,W.w.cell? ⟨p,8,none⟩=some (.int .i64 (c:Int)):=fun W=>(b.out.1.below W.h b.out.1.lt).cell 8
   obtain⟨s6,H⟩:∃x:Gr.Str,U++ph=x:=⟨_,rfl⟩
   have Ls6:s6.length<=80:=by rw[<-H];simp<;>omega
   have aG:=fun W=>zac U ph (by first|omega| (simp<;>omega)) W
   rw[H]at aG;have aZ:=hid H;clear H;obtain⟨s7,A⟩:∃x:Gr.Str,s6++[58]=x:=⟨_,rfl⟩
   have Ls7:s7.length<=90:=by rw[<-A];simp<;>omega
   have aD:=fun W=>zac s6 [58] (by first|omega| (simp<;>omega)) W
   rw[A]at aD;have a0:=hid A;clear A;obtain⟨s8,D⟩:∃x:Gr.Str,s7++pi=x:=⟨_,rfl⟩
   have Ls8:s8.length<=110:=by rw[<-D];simp<;>omega
   have aw:=fun W=>zac s7 pi (by first|omega| (simp<;>omega)) W
   rw[D]at aw;have a5:=hid D;clear D;obtain⟨s9,C⟩:∃x:Gr.Str,s8++[58]=x:=⟨_,rfl⟩
   have Ls9:s9.length<=120:=by rw[<-C];simp<;>omega
   have ax:=fun W=>zac s8 [58] (by first|omega| (simp<;>omega)) W
   rw[C]at ax;have aS:=hid C;clear C;obtain⟨s10,n⟩:∃x:Gr.Str,s9++pc=x:=⟨_,rfl⟩
   have Ls10:s10.length<=140:=by rw[<-n];simp<;>omega
   have J:=fun W=>zac s9 pc (by first|omega| (simp<;>omega)) W
   rw[n]at J;have au:=hid n;clear n;refine zaa a.heap.size a (by kernel_rfl) (by kernel_rfl) Z.out ?_
   iterate 16 (try go_big_quiet_step ((first| (with_reducible refine Calls.grow (ah.out _))| (with_reducible refine Calls.grow (aq.out _))| (with_reducible refine Calls.grow (av.out _)))))
   refine wpQuiet_nil ?_;rintro _ ⟨wy,rfl⟩;have am:Hid (U++clkS h mi c nanos=s10++(if nanos=0 then([]:Gr.Str)else 46::trimZ K)):=hid (by rw[F.out.2.1,<-au.out,<-aS.out,<-a5.out,<-a0.out,<-aZ.out];simp);clear p6 p7 p8 aG aD aw ax J;have q9:wy.w.cell? ⟨p,9,none⟩=some (.int .i64 (nanos:Int)):=(b.out.1.below wy.h b.out.1.lt).cell 9;go_wp2_with fail;refine(ap.out _).mono ?_;rintro e w5 ⟨rfl,ai⟩;have ay:Hid (Below a.heap.size a w5):=hid (wy.h.trans (ai.mono wy.h.size));clear ai q9;go_wp2_with fail;go_loop [4] (fun s4=>∃f:Gr.Str,s4=.string ⟨f.toArray⟩/\f.length<=9/\Hid (trimZ f=trimZ K)) (fun s4=>match s4 with| .string x=>x.size|_=>0)
   case atStart=>exact⟨K,rfl,by omega,hid rfl⟩
   case round=>
    obtain⟨f,rfl,aJ,L⟩:=hrel;rcases List.eq_nil_or_concat f with rfl|⟨g,ch,hfg⟩
    .have X:Hid (U++clkS h mi c nanos=s10):=hid (by
      rw[am.out];have h1:=L.out;rw[show(if nanos=0 then([]:Gr.Str)else 46::trimZ K)=[]from by
       by_cases h0:nanos=0
       .rw[if_pos h0]
       .exact absurd h1.symm (by rw[<-F.out.2.2];exact zpd 9 nanos (by omega) (by omega))]
      simp)
     go_wp2;go_meet;exact⟨s10,rfl,by omega,hid ⟨by rw[if_pos trivial,X.out],ay.out⟩⟩
    .have hF:f=g++[ch]:=by rw[hfg];simp
     have hgl:g.length<=8:=by rw[hF]at aJ;simp at aJ;omega
     have hg2:(f.length:Int)-1=(g.length:Int):=by rw[hF];simp
     have i:g.length<f.length:=by rw[hF];simp
     have o:f[g.length]'i=ch:=by
      have:∀l:Gr.Str,l=g++[ch]->∀h,l[g.length]'h=ch:=by rintro _ rfl h;simp
      exact this f hF i
     have hcut:=fun W=>zur f g.length (g.length:Int) rfl (Nat.le_of_lt i) W
     rw[show f.take g.length=g from by rw[hF];simp]at hcut;have aE:Hid (trimZ f=if ch=48 then trimZ g else f):=hid (by rw[hF];exact zga g ch);clear hF hfg;have hF0:(0:Int)<(f.length:Int):=by omega
     have I:0<f.length:=by omega
     by_cases hz:ch=48
     .have aQ:=zax f g.length i ch 48 48 (by decide) o hz;have aR:=zaq f g.length i ch 48 48 (by decide) o hz;have a1:Hid (trimZ g=trimZ K):=hid (by rw[<-L.out,aE.out,if_pos hz]);have hms:g.length<f.length:=i;clear o hz;go_wp2;go_round
      case rel=>exact⟨g,rfl,by omega,a1⟩
      case measure=>simp[ByteArray.size];omega
     .have aQ:=zao f g.length i ch 48 48 (by decide) o hz;have aR:=zar f g.length i ch 48 48 (by decide) o hz;have al:Hid (trimZ K=f):=hid (by rw[<-L.out,aE.out,if_neg hz]);clear o hz hcut;obtain⟨s11,k⟩:∃x:Gr.Str,s10++[46]=x:=⟨_,rfl⟩
      have Ls11:s11.length<=150:=by rw[<-k];simp<;>omega
      have ao:=fun W=>zac s10 [46] (by first|omega| (simp<;>omega)) W
      rw[k]at ao;have aK:=hid k;clear k;obtain⟨s12,j⟩:∃x:Gr.Str,s11++f=x:=⟨_,rfl⟩
      have Ls12:s12.length<=170:=by rw[<-j];simp<;>omega
      have az:=fun W=>zac s11 f (by first|omega| (simp<;>omega)) W
      rw[j]at az;have aj:=hid j;clear j;have X:Hid (U++clkS h mi c nanos=s12):=hid (by
       rw[am.out,<-aj.out,<-aK.out];have aU:¬nanos=0:=fun h0=>by
        have h1:=F.out.2.2;rw[h0,zpb]at h1;have h2:=al.out;rw[<-h1,zmi]at h2;rw[<-h2]at I;simp at I
       rw[if_neg aU,al.out];simp)
      go_wp2;go_meet;exact⟨s12,rfl,by omega,hid ⟨by rw[if_pos trivial,X.out],ay.out⟩⟩
 case rest=>
 obtain⟨V,rfl,hV,L⟩:=hcut;clear q1;have q2:wc.cell? ⟨p,2,none⟩=some (.bool zone):=(b.out.1.below L.out.2 b.out.1.lt).cell 2;have b2:=fun W=>zac V [90] (by first|omega| (simp<;>omega)) W
 have HZ:Hid (Below w.heap.size w wc):=hid (by rw[a4.out];exact b.out.2.trans (L.out.2.mono (Nat.le_of_lt b.out.1.lt)));cases zone with
 |true=>
  have X:Hid (r=V++[90]):=hid (by rw[<-aL.out,L.out.1,HU.out.1,HS.out.1];rfl);go_wp2;go_ret;exact⟨by rw[X.out]<;>rfl,HZ.out⟩
 |false=>
  have X:Hid (r=V):=hid (by rw[<-aL.out,L.out.1,HU.out.1,HS.out.1];simp);go_wp2;go_ret;exact⟨by rw[X.out]<;>rfl,HZ.out⟩
theorem zqx (y m d h mi c nanos:Nat) (off:Int) (late:Bool) (hy:y<=999999999) (hm:m<=999999999) (hd:d<=999999999) (hh:h<=999999999) (hmi:mi<=999999999) (hc:c<=999999999) (hn:nanos<=999999999) (w:World):
 Calls prog 154 #[.agg #[.bool true,.bool false,.bool false,.int .i64 (y:Int),.int .i64 (m:Int),.int .i64 (d:Int),.int .i64 (h:Int),.int .i64 (mi:Int),.int .i64 (c:Int),.int .i64 (nanos:Int),.int .i64 off,.bool late]] w fun e w'=>e=.returned (.string ⟨(dateS y m d:Gr.Str).toArray⟩)/\Below w.heap.size w w':=by
 simpa using zdq true false false y m d h mi c nanos off late hy hm hd hh hmi hc hn w
theorem zqy (y m d h mi c nanos:Nat) (off:Int) (late:Bool) (hy:y<=999999999) (hm:m<=999999999) (hd:d<=999999999) (hh:h<=999999999) (hmi:mi<=999999999) (hc:c<=999999999) (hn:nanos<=999999999) (w:World):
 Calls prog 154 #[.agg #[.bool false,.bool true,.bool false,.int .i64 (y:Int),.int .i64 (m:Int),.int .i64 (d:Int),.int .i64 (h:Int),.int .i64 (mi:Int),.int .i64 (c:Int),.int .i64 (nanos:Int),.int .i64 off,.bool late]] w fun e w'=>e=.returned (.string ⟨(clkS h mi c nanos:Gr.Str).toArray⟩)/\Below w.heap.size w w':=by
 simpa using zdq false true false y m d h mi c nanos off late hy hm hd hh hmi hc hn w
theorem zqz (y m d h mi c nanos:Nat) (off:Int) (late:Bool) (hy:y<=999999999) (hm:m<=999999999) (hd:d<=999999999) (hh:h<=999999999) (hmi:mi<=999999999) (hc:c<=999999999) (hn:nanos<=999999999) (w:World):
 Calls prog 154 #[.agg #[.bool true,.bool true,.bool false,.int .i64 (y:Int),.int .i64 (m:Int),.int .i64 (d:Int),.int .i64 (h:Int),.int .i64 (mi:Int),.int .i64 (c:Int),.int .i64 (nanos:Int),.int .i64 off,.bool late]] w fun e w'=>e=.returned (.string ⟨((dateS y m d++[84]++clkS h mi c nanos):Gr.Str).toArray⟩)/\Below w.heap.size w w':=by
 simpa using zdq true true false y m d h mi c nanos off late hy hm hd hh hmi hc hn w
theorem zq0 (y m d h mi c nanos:Nat) (off:Int) (late:Bool) (hy:y<=999999999) (hm:m<=999999999) (hd:d<=999999999) (hh:h<=999999999) (hmi:mi<=999999999) (hc:c<=999999999) (hn:nanos<=999999999) (w:World):
 Calls prog 154 #[.agg #[.bool true,.bool true,.bool true,.int .i64 (y:Int),.int .i64 (m:Int),.int .i64 (d:Int),.int .i64 (h:Int),.int .i64 (mi:Int),.int .i64 (c:Int),.int .i64 (nanos:Int),.int .i64 off,.bool late]] w fun e w'=>e=.returned (.string ⟨((dateS y m d++[84]++clkS h mi c nanos++[90]):Gr.Str).toArray⟩)/\Below w.heap.size w w':=by
 simpa using zdq true true true y m d h mi c nanos off late hy hm hd hh hmi hc hn w
end Go.Proofs.YtpjmhafmeieloaaGreatDoor

import Derived.Test.YtpgmfihonmoliaaGreatDoorZ08
namespace Go.Proofs.YtpgmfihonmoliaaGreatDoor
open Gr
open _root_.Go.Proofs.Tryz
open _root_.Go.Lib (hid)
set_option maxRecDepth 100000
set_option maxHeartbeats 16000000
open Go.RowKit
def tlv:Nat->Code->Code
 | 0,c=>c
 |n+1,.seq _ b=>tlv n b
 |_+1,c=>c
section
variable {y:TL} {B D:Nat} {A:Option Addr} {c:Nat} {root:Int} {vs:List NV} {ns:List Gr.Nd}
theorem zsd (w:World) (s:Gr.TS) (vis:Gr.TS->Nat->Gr.TS) (sv zv:Value) (bA v x:Nat) (h:TAt y B D A c root vs ns w s sv zv) (hA:ABox y D w sv zv bA v) (hl:ns.length<=1073741823) (hv:v<ns.length) (hx:x<ns.length)
 (li:s.idx.length=ns.length) (ll:s.low.length=ns.length) (lo:s.on.length=ns.length) (hb1:s.lw v<=1073741824) (hb2:s.ix x<=1073741824)
 (hnew:s.ix x=0->(vis s x).low.length=ns.length/\(vis s x).lw v<=1073741824/\(vis s x).lw x<=1073741824/\Calls prog 63 (y.args (.int .i64 x)) w (TPost y B D A c root vs ns w sv zv (vis s x))):
 Calls prog 64 #[.int .i64 x,.pointer (some ⟨y.bI,0,none⟩),.pointer (some ⟨y.bV,0,none⟩),.pointer (some ⟨y.bL,0,none⟩),.pointer (some ⟨bA,0,none⟩),.pointer (some ⟨y.bO,0,none⟩)] w (TPost y B D A c root vs ns w sv zv (tstep vis v s x)):=by
 unfold tstep;by_cases hi:s.ix x=0
 .rw[if_pos hi];obtain⟨e,a,b,d⟩:=hnew hi;exact zsc w s (vis s x) sv zv bA v x h hA hl hv hx li e hi a b d
 .rw[if_neg hi];by_cases hon:s.onn x=true
  .rw[if_pos hon];exact zva w s sv zv bA v x h hA hl hv hx li ll lo hi hon hb1 hb2
  .rw[if_neg hon];exact zsb w s sv zv bA x h hl hx li lo hi (by simpa using hon) hb2
theorem zn7 (hr:Refs ns) (hl:ns.length<=1073741823) {f:Nat} {s0:Gr.TS} {v:Nat} {G:Nat->Prop} (hI:Gr.Inv (Gr.succ ns) ns.length G s0) (hv:v<ns.length) (hv0:s0.ix v=0) (hg:∀g,G g->Gr.Reach (Gr.succ ns) g v) (hu:unv ns.length s0<=f+1)
 (ih:∀(s:Gr.TS) (v:Nat) (G:Nat->Prop) (w:World) (sv zv:Value),TAt y B D A c root vs ns w s sv zv->Gr.Inv (Gr.succ ns) ns.length G s->v<ns.length->s.ix v=0->(∀g,G g->Gr.Reach (Gr.succ ns) g v)->unv ns.length s<=f->
   Calls prog 63 (y.args (.int .i64 v)) w (TPost y B D A c root vs ns w sv zv (tvisit (Gr.succ ns) f s v)))
 {k:Nat} (hk:k<(Gr.succ ns v).length) (w:World) (sv zv:Value) (bA:Nat) (h:TAt y B D A c root vs ns w (((Gr.succ ns v).take k).foldl (tstep (tvisit (Gr.succ ns) f) v) (s0.push v)) sv zv) (hA:ABox y D w sv zv bA v):
 Calls prog 64 #[.int .i64 ((Gr.succ ns v)[k]:Nat),.pointer (some ⟨y.bI,0,none⟩),.pointer (some ⟨y.bV,0,none⟩),.pointer (some ⟨y.bL,0,none⟩),.pointer (some ⟨bA,0,none⟩),.pointer (some ⟨y.bO,0,none⟩)] w
  (TPost y B D A c root vs ns w sv zv (((Gr.succ ns v).take (k+1)).foldl (tstep (tvisit (Gr.succ ns) f) v) (s0.push v))):=by
 obtain⟨T,a,i⟩:=zd7 hr.succ f s0 v hI hv hv0 hg hu k (by omega);have b:(Gr.succ ns v)[k]∈Gr.succ ns v:=List.getElem_mem hk;have m:=hr.succ v _ b;rw[List.take_succ_eq_append_getElem hk,List.foldl_append];obtain⟨x,o⟩:=ex ((Gr.succ ns v)[k])
 rw[o]at b m ⊢;obtain⟨s,r⟩:=ex (((Gr.succ ns v).take k).foldl (tstep (tvisit (Gr.succ ns) f) v) (s0.push v))
 rw[r]at h a i ⊢;have d:∀u,s.ix u<=1073741823:=fun u=>by have:=a.inv.nx u;have:=a.inv.bn;omega
 refine zsd w s (tvisit (Gr.succ ns) f) sv zv bA v x h hA hl hv m a.inv.li a.inv.ll a.inv.lo (by have:=a.lwv;have:=d v;omega) (by have:=d x;omega) (fun p=>?_);have l:∀g,(G g\/g=v)->Gr.Reach (Gr.succ ns) g x:=by
  rintro g (h1|rfl)
  .exact(hg g h1).trans (.one b)
  .exact .one b
 obtain⟨q,e,j⟩:=zgd hr.succ f s x (fun u=>G u\/u=v) a.inv m p l i;have n:s.ix v≠0:=by rw[a.ixv];omega
 refine⟨e.ll,?_,?_,ih s x _ w sv zv h a.inv m p l i⟩
 .rw[j.klw v n];have:=a.lwv;have:=d v;omega
 .by_cases hm:x∈q
  .obtain⟨z,_,h1,_⟩:=j.att hm;have:=d z;omega
  .rw[(j.out hm).2];have:=e.nx x;have:=e.bn;omega
theorem TF.reval {sv zv sv' zv' sv2:Value} {w w':World} (h:TF y sv zv w w' sv' zv') (e:sv2.ownBlock=sv'.ownBlock):TF y sv zv w w' sv2 zv':=⟨h.os,h.tape,h.output,h.size,h.block,fun k a=>h.fs k (e▸a),h.fz⟩
theorem TAt.tfBelow {w w':World} {s:Gr.TS} {sv zv sv' zv':Value} (h:TAt y B D A c root vs ns w s sv zv) (hf:TF y sv zv w w' sv' zv'):Below B w w':=by
 refine⟨hf.os,hf.tape,hf.output,hf.size,fun k hk=>?_⟩;obtain⟨l1,l2,l3,l4,l5,l6,l7,l8⟩:=h.ok.lo;have:=h.hd;exact hf.block k (by omega) (by omega) (by omega) (by omega) (by omega) (by omega) (by omega) (by omega) (h.svD (by omega)) (h.zvD (by omega))
theorem zlv (hr:Refs ns) (hl:ns.length<=1073741823) (hks:∀n∈ns,n.keys.length<=1073741823/\n.items.length<=1073741823) {f:Nat} {s:Gr.TS} {v:Nat} {G:Nat->Prop} (hI:Gr.Inv (Gr.succ ns) ns.length G s) (hv:v<ns.length) (hv0:s.ix v=0) (hg:∀g,G g->Gr.Reach (Gr.succ ns) g v) (hu:unv ns.length s<=f+1)
 (ih:∀(s:Gr.TS) (v:Nat) (G:Nat->Prop) (w:World) (sv zv:Value),TAt y B D A c root vs ns w s sv zv->Gr.Inv (Gr.succ ns) ns.length G s->v<ns.length->s.ix v=0->(∀g,G g->Gr.Reach (Gr.succ ns) g v)->unv ns.length s<=f->
   Calls prog 63 (y.args (.int .i64 v)) w (TPost y B D A c root vs ns w sv zv (tvisit (Gr.succ ns) f s v)))
 (w wc:World) (sv zv sv1:Value) (bA:Nat) (hT:TAt y B D A c root vs ns wc {s with next:=s.next+1,idx:=s.idx.set v (s.next+1),low:=s.low.set v (s.next+1),stk:=s.stk++[v]} sv1 zv) (hF:TF y sv zv w wc sv1 zv) (hA:ABox y D wc sv1 zv bA v)
 {u11 u12 u13 u14 u15 u16 u17 u18 u19 u20 u21 u22 u23 u24 u25 u26 u27 u28 u29 u30 u31 u32 u33 u34 u35 u36 u37 u38 u39 u40 u41 u42 u43 u44 u45 u46 u47 u48 u49 u50 u51 u52 u53 u54 u55 u56 u57 u58 u59 u60 u61 u62 u63 u64 u65 u66 u67 u68 u69 u70 u71 u72 u73 u74 u75 u76 u77 u78 u79 u80 u81 u82 u83 u84 u85 u86 u87 u88 u89 u90 u91 u92 u93 u94 u95 u96 u97 u98 u99 u100 u101 u102:Value}:
 Code.wp prog (tlv 4 (f63.body.getD .skip)) (bodyPost prog f63 (TPost y B D A c root vs ns w sv zv (tvisit (Gr.succ ns) (f+1) s v))) {tmps:=List.toArray (.int .i64 v::.pointer (some ⟨y.bN,0,none⟩)::.pointer (some ⟨y.bI,0,none⟩)::.pointer (some ⟨y.bL,0,none⟩)::.pointer (some ⟨y.bS,0,none⟩)::.pointer (some ⟨y.bO,0,none⟩)::.pointer (some ⟨y.bV,0,none⟩)::.pointer (some ⟨y.bG,0,none⟩)::.pointer (some ⟨y.bZ,0,none⟩)::.pointer (some ⟨y.bC,0,none⟩)::.pointer (some ⟨bA,0,none⟩)::u11::u12::u13::u14::u15::u16::u17::u18::u19::u20::u21::u22::u23::u24::u25::u26::u27::u28::u29::u30::u31::u32::u33::u34::u35::u36::u37::u38::u39::u40::u41::u42::u43::u44::u45::u46::u47::u48::u49::u50::u51::u52::u53::u54::u55::u56::u57::u58::u59::u60::u61::u62::u63::u64::u65::u66::u67::u68::u69::u70::u71::u72::u73::u74::u75::u76::u77::u78::u79::u80::u81::u82::u83::u84::u85::u86::u87::u88::u89::u90::u91::u92::u93::u94::u95::u96::u97::u98::u99::u100::u101::u102::[]),defers:=[]} wc:=by
 generalize hc0:tlv 4 (f63.body.getD .skip)=c0;simp only[tlv,f63,Option.getD_some]at hc0;subst hc0;have hvI:(v:Int)<(ns.length:Int):=by omega
 have z:=hid (fun(k:Nat) (hk:k<(Gr.succ ns v).length)=>zn7 (y:=y) (B:=B) (D:=D) (A:=A) (c:=c) (root:=root) (vs:=vs) hr hl hI hv hv0 hg hu ih hk);have Z:=hid (zd7 hr.succ f s v hI hv hv0 hg hu);have HI:=hid hI;have X:=hid hT.ok;have r:Hid (tvisit (Gr.succ ns) (f+1) s v=tfin ((Gr.succ ns v).foldl (tstep (tvisit (Gr.succ ns) f) v) (s.push v)) v):=hid rfl;obtain⟨st,aH⟩:∃st:Gr.TS->Nat->Gr.TS,tstep (tvisit (Gr.succ ns) f) v=st:=⟨_,rfl⟩
 rw[aH]at z Z r;have o0:wc.cell? ⟨y.bO,0,none⟩=some (.slice (some ⟨y.rO,0,none⟩) ns.length ns.length):=hT.xO.cell 0;have a0:wc.cell? ⟨bA,0,none⟩=some (.int .i64 (v:Int)):=hA.b.cell 0;have of:∀i,wc.frozen? ⟨y.rO,i,none⟩=false:=hT.rO.frozen;have ov:wc.cell? ⟨y.rO,v,none⟩=some (.bool (s.onn v)):=by rw[hT.rO.cell,zae (by show v<s.on.length;rw[HI.out.lo];exact hv)];rfl
 have HT:=hid hT;have HF:=hid hF;have HA:=hid hA;clear hT hF hA hI hg hu ih aH;go_upto_region 6 with fail;obtain⟨M,af⟩:=ex (wc.setCell ⟨y.rO,v,none⟩ (.bool true))
 have f4:TF y sv1 zv wc M sv1 zv:=by rw[<-af];exact(TF.refl _ _ _ _).set y.rO v (by simp) _
 have h4:TAt y B D A c root vs ns M (s.push v) sv1 zv:=by rw[<-af];exact HT.out.setO v true
 have au:=HA.out.kept X.out f4;have aY:=hid (HF.out.trans f4);(try rw[af]);clear af o0 a0 of ov HT HF HA f4;have aO:ns[v]∈ns:=List.getElem_mem hv;obtain⟨ap,a7⟩:=hks _ aO;have ax:Gr.succ ns v=ns[v].keys++ns[v].items:=by unfold Gr.succ;rw[List.getElem?_eq_getElem hv]
 obtain⟨u,k,i,rfl,hN⟩:=h4.at_.node hv;obtain⟨ka,kn,kc⟩:=k;obtain⟨ia,inn,ic⟩:=i;obtain⟨n,hn⟩:=ex (ns[v])
 rw[hn]at hN ap a7 ax;obtain rfl:kn=n.keys.length:=hN.kn;obtain rfl:inn=n.items.length:=hN.inn;have Y:=hid ax;have x3:=hN.c3;have g0:M.cell? ⟨y.bG,0,none⟩=some (.slice (some u) ns.length c):=h4.xG.cell 0;have a0:M.cell? ⟨bA,0,none⟩=some (.int .i64 (v:Int)):=au.b.cell 0;have aB:=hid hN.keys;have an:Hid (RowAt intL M B ia n.items/\M.cell? {block:=(u.add (v*5)).block,off:=(u.add (v*5)).off+4}=some (.slice ia n.items.length ic)/\(u.add (v*5)).block<B):=hid ⟨hN.items,hN.c4,hN.lt⟩;have H4:=hid h4;have a8:=hid au;clear hN h4 au hn aO ax;go_upto_region 7 with fail;clear x3 g0 a0;go_loopw [43] (fun s43 wr=>∃(k:Nat) (sk zk:Value),k<=n.keys.length/\s43=.int .i64 k/\Hid (TAt y B D (some u) c root vs ns wr (((Gr.succ ns v).take k).foldl st (s.push v)) sk zk/\TF y sv1 zv M wr sk zk/\ABox y D wr sk zk bA v)) (fun s43 _=>n.keys.length-(intOf s43).toNat)
 case atStart=>exact⟨0,sv1,zv,by omega,rfl,hid ⟨by simpa using H4.out,TF.refl _ _ _ _,a8.out⟩⟩
 case round=>
  obtain⟨k,sk,zk,hk,rfl,o⟩:=hrel;by_cases hlk:k<n.keys.length
  .have I:(k:Int)<(n.keys.length:Int):=by omega
   have E:k<(Gr.succ ns v).length:=by rw[Y.out,List.length_append];omega
   have F:(Gr.succ ns v)[k]=n.keys[k]:=by simp only[Y.out];exact List.getElem_append_left hlk
   obtain⟨x,hx⟩:=ex (n.keys[k])
   have hC:=z.out _ E wr sk zk bA o.out.1 o.out.2.2;rw[F,hx]at hC;obtain⟨aS,rfl,_,y0⟩:=zaf (aB.out.below (H4.out.tfBelow o.out.2.1)) hlk;rw[hx]at y0;have HC:=hid hC;clear hC hx F E;go_wp2_with fail;refine HC.out.mono ?_;rintro e J ⟨rfl,t,C,O,f5⟩;have S:Hid (TAt y B D (some u) c root vs ns J (((Gr.succ ns v).take (k+1)).foldl st (s.push v)) t C/\TF y sv1 zv M J t C/\ABox y D J t C bA v):=hid ⟨O,o.out.2.1.trans f5,o.out.2.2.kept X.out f5⟩;clear O f5;go_wp2;go_roundw
   case rel=>exact⟨k+1,t,C,by omega,by go_num,S⟩
   case measure=>simp[intOf];omega
  .have I:¬((k:Int)<(n.keys.length:Int)):=by omega
   have ab:Hid (TAt y B D (some u) c root vs ns wr (((Gr.succ ns v).take (n.keys.length+0)).foldl st (s.push v)) sk zk/\TF y sv1 zv M wr sk zk/\ABox y D wr sk zk bA v):=hid (by
    have:=o.out;rw[show k=n.keys.length+0 from by omega]at this;exact this)
   have g0:wr.cell? ⟨y.bG,0,none⟩=some (.slice (some u) ns.length c):=ab.out.1.xG.cell 0;have a0:wr.cell? ⟨bA,0,none⟩=some (.int .i64 (v:Int)):=ab.out.2.2.b.cell 0;have x4:wr.cell? {block:=(u.add (v*5)).block,off:=(u.add (v*5)).off+4}=some (.slice ia n.items.length ic):=by
    rw[(H4.out.tfBelow ab.out.2.1).cell (by exact an.out.2.2)];exact an.out.2.1
   clear o hk hlk aB;go_upto_region 12 with fail;clear g0 a0 x4 I;go_loopw [58] (fun s58 wr=>∃(k:Nat) (sk zk:Value),k<=n.items.length/\s58=.int .i64 k/\Hid (TAt y B D (some u) c root vs ns wr (((Gr.succ ns v).take (n.keys.length+k)).foldl st (s.push v)) sk zk/\TF y sv1 zv M wr sk zk/\ABox y D wr sk zk bA v)) (fun s58 _=>n.items.length-(intOf s58).toNat)
   case atStart=>exact⟨0,sk,zk,by omega,rfl,ab⟩
   case round=>
    clear ab;obtain⟨k,sk,zk,hk,rfl,o⟩:=hrel;by_cases hlk:k<n.items.length
    .have I:(k:Int)<(n.items.length:Int):=by omega
     have E:n.keys.length+k<(Gr.succ ns v).length:=by rw[Y.out,List.length_append];omega
     have F:(Gr.succ ns v)[n.keys.length+k]=n.items[k]:=by simp only[Y.out];rw[List.getElem_append_right (by omega)];congr 1;omega
     obtain⟨x,hx⟩:=ex (n.items[k])
     have hC:=z.out _ E wr sk zk bA o.out.1 o.out.2.2;rw[F,hx]at hC;obtain⟨aS,rfl,_,y0⟩:=zaf (an.out.1.below (H4.out.tfBelow o.out.2.1)) hlk;rw[hx]at y0;have HC:=hid hC;clear hC hx F E;go_wp2_with fail;refine HC.out.mono ?_;rintro e J ⟨rfl,t,C,O,f5⟩;have S:Hid (TAt y B D (some u) c root vs ns J (((Gr.succ ns v).take (n.keys.length+(k+1))).foldl st (s.push v)) t C/\TF y sv1 zv M J t C/\ABox y D J t C bA v):=hid ⟨O,o.out.2.1.trans f5,o.out.2.2.kept X.out f5⟩;clear O f5;go_wp2;go_roundw
     case rel=>exact⟨k+1,t,C,by omega,by go_num,S⟩
     case measure=>simp[intOf];omega
    .have I:¬((k:Int)<(n.items.length:Int)):=by omega
     have aT:(Gr.succ ns v).length=n.keys.length+n.items.length:=by rw[Y.out,List.length_append]
     obtain⟨q,hq⟩:=ex ((Gr.succ ns v).foldl st (s.push v))
     have HQ:Hid (TAt y B D (some u) c root vs ns wr q sk zk/\TF y sv1 zv M wr sk zk/\ABox y D wr sk zk bA v):=hid (by
      have:=o.out;rw[show n.keys.length+k=(Gr.succ ns v).length from by omega,List.take_length,hq]at this;exact this)
     have aa:Hid (∃T,Gr.Loop (Gr.succ ns) ns.length G s q v T (Gr.succ ns v)):=hid (by
      obtain⟨T,hT,_⟩:=Z.out (Gr.succ ns v).length (Nat.le_refl _);rw[List.take_length,hq]at hT;exact⟨T,hT⟩)
     rw[hq]at r;clear hq aT o hk hlk z Z;have az:Hid (TF y sv zv w wr sk zk):=hid (aY.out.trans HQ.out.2.1);have HB:Hid (q.low.length=ns.length/\q.idx.length=ns.length/\q.ix v<=1073741823/\q.lw v<=1073741823/\q.on.length=ns.length/\q.inn.length=ns.length/\q.stk.length<=1073741823/\q.sizes.length<=1073741823):=hid (by
      obtain⟨T,hT⟩:=aa.out;have h1:=hT.inv.nx v;have h2:=hT.inv.bn;have h3:=hT.lwv;have h4:=hT.inv.bz;exact⟨hT.inv.ll,hT.inv.li,by omega,by omega,hT.inv.lo,hT.inv.lc,by omega,by omega⟩)
     obtain⟨qi,N⟩:=ex (q.ix v)
     obtain⟨ql,U⟩:=ex (q.lw v)
     have i0:wr.cell? ⟨y.bI,0,none⟩=some (.slice (some ⟨y.rI,0,none⟩) ns.length ns.length):=HQ.out.1.xI.cell 0;have l0:wr.cell? ⟨y.bL,0,none⟩=some (.slice (some ⟨y.rL,0,none⟩) ns.length ns.length):=HQ.out.1.xL.cell 0;have a0:wr.cell? ⟨bA,0,none⟩=some (.int .i64 (v:Int)):=HQ.out.2.2.b.cell 0;have iv:wr.cell? ⟨y.rI,v,none⟩=some (.int .i64 (qi:Int)):=by rw[HQ.out.1.rI.cell,zab (by rw[HB.out.2.1];exact hv),<-N];rfl
     have lv:wr.cell? ⟨y.rL,v,none⟩=some (.int .i64 (ql:Int)):=by rw[HQ.out.1.rL.cell,zab (by rw[HB.out.1];exact hv),<-U];rfl
     by_cases he:ql=qi
     .subst he;have R:Hid (tvisit (Gr.succ ns) (f+1) s v=q.close v):=hid (by rw[r.out];unfold tfin;rw[if_pos (by rw[N,U])]);clear N U r;go_upto_region 16 with fail;go_quiet (fail);go_upto_region 18 with fail;obtain⟨T,hT⟩:=aa.out;have aw:v∉T:=by
       have h1:=zd6 hT.inv.ord;rw[hT.stk,List.nodup_append]at h1;exact(List.nodup_cons.1 h1.2.1).1
      have aU:=hid hT.stk;have bb:=hid (zr6 hT.stk);have a1:=hid (zr5 hT.stk aw);have ba:Hid (∀x∈v::T,x<ns.length):=hid (fun x hx=>(hT.inv.stv x (by rw[hT.stk];exact List.mem_append_right _ hx)).1);have a4:=hid aw;have hTl:T.length<=1073741823:=by have:=HB.out.2.2.2.2.2.2.1;rw[hT.stk]at this;simp at this;omega
      obtain⟨j,m,a9,_⟩:=HQ.out.1.siz.form;subst a9;clear hT aw i0 l0 a0 iv lv;go_loopw [16] (fun s16 wp=>∃(k:Nat) (sk2:Value),k<=T.length/\s16=.int .i64 k/\Hid (TAt y B D (some u) c root vs ns wp ((T.reverse.take k).foldl Gr.TS.drop1 q) sk2 (.slice j q.sizes.length m)/\TF y sv zv w wp sk2 (.slice j q.sizes.length m)/\ABox y D wp sk2 (.slice j q.sizes.length m) bA v)) (fun s16 _=>T.length+1-(intOf s16).toNat)
      case atStart=>exact⟨0,sk,by omega,rfl,hid ⟨by simpa using HQ.out.1.drewN _,az.out.drewN _,HQ.out.2.2.kept X.out ((TF.refl _ _ _ _).drewN _)⟩⟩
      case round=>
       obtain⟨k,sk2,hk,rfl,o⟩:=hrel;obtain⟨d1,d2,d3,d4⟩:=bb.out k hk;obtain⟨L,x,ar,aR,aK⟩:∃L x,s.stk++v::T.take (T.length-k)=L++[x]/\((k=T.length/\x=v)\/(k<T.length/\x≠v/\T.reverse.take (k+1)=T.reverse.take k++[x]))/\x<ns.length:=by
        by_cases hkT:k<T.length
        .refine⟨s.stk++v::T.take (T.length-(k+1)),T[T.length-(k+1)]'(by omega),?_,.inr ⟨hkT,fun e=>a4.out (e▸List.getElem_mem _),?_⟩,ba.out _ (.tail _ (List.getElem_mem _))⟩
         .have:=List.take_succ_eq_append_getElem (l:=T) (i:=T.length-(k+1)) (by omega);rw[show T.length-(k+1)+1=T.length-k from by omega]at this;rw[this];simp
         .have ap:k<T.reverse.length:=by simpa using hkT
          rw[List.take_succ_eq_append_getElem ap]
          congr 2
          rw[List.getElem_reverse]
          congr 1
          omega
        .refine⟨s.stk,v,?_,.inl ⟨by omega,rfl⟩,hv⟩;rw[show T.length-k=0 from by omega];simp
       rw[ar]at d1;obtain⟨p,hp⟩:=ex ((T.reverse.take k).foldl Gr.TS.drop1 q)
       rw[hp]at d1 d2 d3 d4;have K:TAt y B D (some u) c root vs ns wr p sk2 (.slice j q.sizes.length m):=by have:=o.out.1;rw[hp]at this;exact this
       have d:=K.stk;rw[d1]at d;obtain⟨g,a,H,ak⟩:=d.shape (by simp);rw[List.length_append,List.length_cons,List.length_nil]at H ak;obtain⟨h,ac⟩:=ex L.length
       rw[ac]at H ak;obtain⟨A',c',aq,aP⟩:=d.form;have aZ:A'=some ⟨g,0,none⟩:=by rw[H]at aq;injection aq with e1 _ _;exact e1.symm
       subst aZ;obtain⟨aS,e2,_,y0⟩:=zaf (k:=h) aP (by simp;omega);injection e2 with e2
       subst e2;have aG:(L++[x])[h]'(by simp;omega)=x:=by subst ac;simp
       rw[aG]at y0;have y1:wr.cell? ⟨g,h,none⟩=some (.int .i64 (x:Int)):=by
        have e:(⟨g,0,none⟩:Addr).add h=⟨g,h,none⟩:=by unfold Addr.add;split<;>simp_all
        rwa[e]at y0
       have s0:wr.cell? ⟨y.bS,0,none⟩=some (.slice (some ⟨g,0,none⟩) (h+1) a):=by rw[K.bS.cell 0];show some sk2=_;rw[H]
       have sf:∀i,wr.frozen? ⟨y.bS,i,none⟩=false:=K.bS.frozen;have t1:((h:Int)+1-1)=(h:Int):=by omega
       have a3:=fun W=>zsa g (h+1) a h (by omega) W
       have hcapI:(h:Int)+1<=(a:Int):=by omega
       have hnb:h<=1073741823:=by
        have h1:=HB.out.2.2.2.2.2.2.1;have h2:(s.stk++v::T.take (T.length-k)).length=(L++[x]).length:=by rw[ar]
        rw[aU.out]at h1;simp at h1 h2;omega
       have hxI:(x:Int)<(ns.length:Int):=by omega
       have aJ:OwnRow intL wr D 3 (.slice (some ⟨g,0,none⟩) h a) L:=by
        have h1:OwnRow intL wr D 3 (.slice (some ⟨g,0,none⟩) (h+1) a) (L++[x]):=by rw[<-H];exact d
        have:=h1.drop1;rwa[ac]at this
       have ao:(Value.slice (some ⟨g,0,none⟩) h a).ownBlock=sk2.ownBlock:=by rw[H];rfl
       have aN:∀k,(Value.slice (some ⟨g,0,none⟩) h a).ownBlock=some k->(Value.slice j q.sizes.length m).ownBlock≠some k:=fun k e=>K.apart k (ao▸e)
       have aV:=hid K;have aM:=hid aJ;have aE:=hid ao;have aI:=hid aN;have HD:Hid (p.sizes=q.sizes/\p.on.length=ns.length/\p.inn.length=ns.length/\p.stk=L++[x]):=hid ⟨d2,d3.trans HB.out.2.2.2.2.1,d4.trans HB.out.2.2.2.2.2.1,d1⟩;have aD:=hid hp;have aW:=hid aR;clear aJ ao aN K d aq aP y0 aG H ac d1 d2 d3 d4 hp ar aR;go_upto_region 20 with fail;obtain⟨J,ah⟩:=ex (wr.setCell ⟨y.bS,0,none⟩ (.slice (some ⟨g,0,none⟩) h a))
       have O:TAt y B D (some u) c root vs ns J {p with stk:=L} (.slice (some ⟨g,0,none⟩) h a) (.slice j q.sizes.length m):=by rw[<-ah];exact aV.out.setS aM.out aI.out
       have f5:TF y sk2 (.slice j q.sizes.length m) wr J (.slice (some ⟨g,0,none⟩) h a) (.slice j q.sizes.length m):=by rw[<-ah];exact((TF.refl _ _ _ _).set y.bS 0 (by simp) _).reval aE.out
       (try rw[ah]);have o0:J.cell? ⟨y.bO,0,none⟩=some (.slice (some ⟨y.rO,0,none⟩) ns.length ns.length):=O.xO.cell 0;have ov:J.cell? ⟨y.rO,x,none⟩=some (.bool (p.on.getD x false)):=by rw[O.rO.cell,zae (by rw[HD.out.2.1];exact aK)]
       have of:∀i,J.frozen? ⟨y.rO,i,none⟩=false:=O.rO.frozen;have H5:=hid O;have F5:=hid f5;clear ah O f5 s0 sf y1 a3 aV aM aI aE;go_upto_region 21 with fail;obtain⟨w6,ae⟩:=ex (J.setCell ⟨y.rO,x,none⟩ (.bool false))
       have h6:TAt y B D (some u) c root vs ns w6 {p with stk:=L,on:=p.on.set x false} (.slice (some ⟨g,0,none⟩) h a) (.slice j q.sizes.length m):=by rw[<-ae];exact H5.out.setO x false
       have f6:TF y sk2 (.slice j q.sizes.length m) wr w6 (.slice (some ⟨g,0,none⟩) h a) (.slice j q.sizes.length m):=by rw[<-ae];exact F5.out.set y.rO x (by simp) _
       (try rw[ae]);have c0:w6.cell? ⟨y.bC,0,none⟩=some (.slice (some ⟨y.rC,0,none⟩) ns.length ns.length):=h6.xC.cell 0;have z0:w6.cell? ⟨y.bZ,0,none⟩=some (.slice j q.sizes.length m):=h6.bZ.cell 0;have cv:w6.cell? ⟨y.rC,x,none⟩=some (.int .i64 (p.inn.getD x (-1))):=by rw[h6.rC.cell,zb2 (by rw[HD.out.2.2.1];exact aK)]
       have cf:∀i,w6.frozen? ⟨y.rC,i,none⟩=false:=h6.rC.frozen;have H6:=hid h6;have F6:=hid f6;clear ae h6 f6 o0 ov of H5 F5;go_upto_region 22 with fail;obtain⟨w7,ag⟩:=ex (w6.setCell ⟨y.rC,x,none⟩ (.int .i64 (q.sizes.length:Int)))
       have h7:TAt y B D (some u) c root vs ns w7 (p.drop1 x) (.slice (some ⟨g,0,none⟩) h a) (.slice j q.sizes.length m):=by
        have:=H6.out.setC x (q.sizes.length:Int);rw[ag]at this;have e:p.drop1 x={p with stk:=L,on:=p.on.set x false,inn:=p.inn.set x (q.sizes.length:Int)}:=by
         unfold Gr.TS.drop1;rw[HD.out.2.2.2,HD.out.1,List.dropLast_concat]
        rw[e];exact this
       have f7:TF y sk2 (.slice j q.sizes.length m) wr w7 (.slice (some ⟨g,0,none⟩) h a) (.slice j q.sizes.length m):=by rw[<-ag];exact F6.out.set y.rC x (by simp) _
       (try rw[ag]);have am:=o.out.2.2.kept X.out f7;have a0:w7.cell? ⟨bA,0,none⟩=some (.int .i64 (v:Int)):=am.b.cell 0;have aF:=hid am;have H7:=hid h7;have F7:=hid f7;clear ag h7 f7 c0 z0 cv cf H6 F6 am;by_cases hkT:k<T.length
       .have Q:=aW.out.resolve_left (fun e=>by omega);have P:¬((x:Int)=(v:Int)):=by have:=Q.2.1;omega
        have ay:((x:Int)==(v:Int))=false:=by simpa using P
        have S:Hid (TAt y B D (some u) c root vs ns w7 ((T.reverse.take (k+1)).foldl Gr.TS.drop1 q) (.slice (some ⟨g,0,none⟩) h a) (.slice j q.sizes.length m)/\TF y sv zv w w7 (.slice (some ⟨g,0,none⟩) h a) (.slice j q.sizes.length m)/\ABox y D w7 (.slice (some ⟨g,0,none⟩) h a) (.slice j q.sizes.length m) bA v):=hid ⟨by
         rw[Q.2.2,List.foldl_append,aD.out];exact H7.out,o.out.2.1.trans F7.out,aF.out⟩
        clear Q o;go_wp2;go_roundw
        case rel=>exact⟨k+1,_,by omega,by go_num,S⟩
        case measure=>simp[intOf];omega
       .have Q:=aW.out.resolve_right (fun e=>hkT e.1);obtain⟨al,F⟩:=Q;have P:(x:Int)=(v:Int):=by omega
        have ay:((x:Int)==(v:Int))=true:=by simpa using P
        have HX:Hid (q.close v={(p.drop1 x)with sizes:=q.sizes++[k+1]}):=hid (by
         rw[a1.out,<-aD.out,F,al,List.take_of_length_le (by simp)])
        have a5:=hid (o.out.2.1.trans F7.out);have HO:Hid (OwnRow intL w7 D 3 (.slice j q.sizes.length m) q.sizes):=hid (by have:=H7.out.siz;rw[show(p.drop1 x).sizes=q.sizes from HD.out.1]at this;exact this);have z0:w7.cell? ⟨y.bZ,0,none⟩=some (.slice j q.sizes.length m):=H7.out.bZ.cell 0;have e0:=World.new_ne w7 _ z0;have hDw:=H7.out.hd;have hqs:q.sizes.length<=1073741823:=HB.out.2.2.2.2.2.2.2;clear F hkT o al aF;go_upto_region 24 with fail;go_wp2_with (at_builtin;go_must (refine zaa _ rfl (.tmp 99) (.tmp 101) 36 3 8 rfl intT D (.slice j q.sizes.length m) q.sizes rfl (HO.out.alloc _) _ _ 1 [k+1] rfl (RowAt.lit1 _ _ rfl _ ?_) ?_ ?_ ?_))
        any_goals (first|rfl|omega| (simp;omega)| (rw[World.size_alloc];omega))
        intro v' w8 d hg aQ;have V:=H7.out.alloc (.cells #[.int .i64 ((k:Int)+1)] 3);have av:Blk w8 y.bZ 36 _:=V.bZ.grown hg (fun e=>zby V.siz V.bZ (by decide) e.symm);have pc3:w8.cell? ⟨y.bZ,0,none⟩=some (.slice j q.sizes.length m):=av.cell 0;have pf3:∀i,w8.frozen? ⟨y.bZ,i,none⟩=false:=av.frozen;obtain⟨g3,ai,aA,_⟩:=d.shape (by simp);obtain⟨n3,aL⟩:=ex ((q.sizes++[k+1]).length)
        rw[aL]at aA;subst aA;have aC:=hid V;have aX:=hid d;have HG:=hid hg;have a6:=hid aQ;clear V d hg aQ av aL;go_wp2_with fail;go_end0;have aj:(Value.slice (some ⟨g3,0,none⟩) n3 ai).ownBlock=(Value.slice j q.sizes.length m).ownBlock\/(Value.slice (some ⟨g3,0,none⟩) n3 ai).ownBlock=some (w7.alloc (.cells #[.int .i64 ((k:Int)+1)] 3)).heap.size:=by rw[World.size_alloc];exact a6.out
        have f8:=(a5.out.alloc (.cells #[.int .i64 ((k:Int)+1)] 3)).trans (TF.grownZ aC.out HG.out aj);have h8:=aC.out.grownZ aX.out HG.out aj;rw[R.out,HX.out];exact⟨rfl,_,_,h8,f8⟩
     .have a2:¬((ql:Int)=(qi:Int)):=by omega
      have hneb:((ql:Int)==(qi:Int))=false:=by simpa using a2
      have R:Hid (tvisit (Gr.succ ns) (f+1) s v=q):=hid (by rw[r.out];unfold tfin;rw[if_neg (by rw[N,U];exact he)]);clear N U r he;go_upto_region 16 with fail;go_quiet (fail);go_wp2_with fail;refine bodyPost_ret (v:=.tuple #[]) (by simp[results,results63,go_sem]) rfl ?_;rw[R.out];exact⟨rfl,sk,zk,HQ.out.1.drewN _,az.out.drewN _⟩
end
section
variable {y:TL} {B D:Nat} {A:Option Addr} {c:Nat} {root:Int} {vs:List NV} {ns:List Gr.Nd}
theorem zlw (hr:Refs ns) (hl:ns.length<=1073741823) (hks:∀n∈ns,n.keys.length<=1073741823/\n.items.length<=1073741823):
 ∀(f:Nat) (s:Gr.TS) (v:Nat) (G:Nat->Prop) (w:World) (sv zv:Value),TAt y B D A c root vs ns w s sv zv->Gr.Inv (Gr.succ ns) ns.length G s->v<ns.length->s.ix v=0->(∀g,G g->Gr.Reach (Gr.succ ns) g v)->unv ns.length s<=f->
 Calls prog 63 (y.args (.int .i64 v)) w (TPost y B D A c root vs ns w sv zv (tvisit (Gr.succ ns) f s v)):=by
 intro f
 induction f with
 |zero=>
  intro s v G w sv zv h N T o x hu;have:=zed N T o;omega
 |succ f ih=>
  intro s v G w sv zv h N T o x hu;have hvI:(v:Int)<(ns.length:Int):=by omega
  have hnx:s.next<=1073741823:=by have:=N.bn;omega
  have hsl:s.stk.length<=1073741823:=by have:=N.bz;omega
  have IH:=hid ih;have W:Hid ((∀g,G g->Gr.Reach (Gr.succ ns) g v)/\unv ns.length s<=f+1):=hid ⟨x,hu⟩;have HI:=hid N;have a:=hid h.ok;have U:=h.alloc (.cells #[.int .i64 v] 3);have p:ABox y D (w.alloc (.cells #[.int .i64 v] 3)) sv zv w.heap.size v:=⟨Blk.new _ _ _,h.hd,fun e=>by have:=(h.stk.lt _ e).2;omega,fun e=>by have:=(h.siz.lt _ e).2;omega⟩
  have F:TF y sv zv w (w.alloc (.cells #[.int .i64 v] 3)) sv zv:=(TF.refl _ _ _ _).alloc _;have H:=hid h;clear ih N x hu h;unfold TL.args;go_enter func63,ntmps63;obtain⟨X,K⟩:=ex (w.alloc (.cells #[.int .i64 v] 3))
  rw[K]at U p F;obtain⟨I,M⟩:=ex w.heap.size
  have n0:X.cell? ⟨y.bN,0,none⟩=some (.int .i64 (s.next:Int)):=U.bN.cell 0;have nf:∀i,X.frozen? ⟨y.bN,i,none⟩=false:=U.bN.frozen;have hw:IntKind.i64.wrap ((s.next:Int)+1)=(s.next:Int)+1:=IntWalk.i64_in _ (by omega);go_upto_region 1 with fail;(try rw[K]);rw[M]at p;(try rw[M]);clear K M;go_upto_region 2 with fail;obtain⟨m,q⟩:=ex (X.setCell ⟨y.bN,0,none⟩ (.int .i64 ((s.next:Int)+1)))
  have J:TF y sv zv X m sv zv:=by rw[<-q];exact(TF.refl _ _ _ _).set y.bN 0 (.inl rfl) _
  have d:TAt y B D A c root vs ns m {s with next:=s.next+1} sv zv:=by rw[<-q];exact U.setN (s.next+1)
  have k:=p.kept a.out J;have P:=hid (F.trans J);rw[q];have i0:m.cell? ⟨y.bI,0,none⟩=some (.slice (some ⟨y.rI,0,none⟩) ns.length ns.length):=d.xI.cell 0;have l0:m.cell? ⟨y.bL,0,none⟩=some (.slice (some ⟨y.rL,0,none⟩) ns.length ns.length):=d.xL.cell 0;have a0:m.cell? ⟨I,0,none⟩=some (.int .i64 (v:Int)):=k.b.cell 0;have n1:m.cell? ⟨y.bN,0,none⟩=some (.int .i64 ((s.next:Int)+1)):=d.bN.cell 0;have rf:∀i,m.frozen? ⟨y.rI,i,none⟩=false:=d.rI.frozen;have lf:∀i,m.frozen? ⟨y.rL,i,none⟩=false:=d.rL.frozen;have xv:m.cell? ⟨y.rI,v,none⟩=some (.int .i64 0):=by
   rw[d.rI.cell,zab (by show v<s.idx.length;rw[HI.out.li];exact T)];show some (Value.int .i64 ((s.ix v:Nat):Int))=_;rw[o];rfl
  have yv:m.cell? ⟨y.rL,v,none⟩=some (.int .i64 ((s.lw v:Nat):Int)):=by
   rw[d.rL.cell,zab (by show v<s.low.length;rw[HI.out.ll];exact T)];rfl
  have q1:y.bN≠y.rI:=a.out.nI;have q2:y.bN≠y.rL:=a.out.nL;have q3:y.rI≠y.rL:=a.out.iL;have q4:y.rL≠y.rI:=a.out.iL.symm;have q5:y.bL≠y.rI:=d.xL.ne_ d.rI (by decide);have q6:y.bL≠y.rL:=d.xL.ne_ d.rL (by decide);have q7:y.bI≠y.rI:=d.xI.ne_ d.rI (by decide);have q8:y.bI≠y.rL:=d.xI.ne_ d.rL (by decide);have q9:I≠y.rI:=by have:=k.hi;have:=a.out.dI;omega
  have ac:I≠y.rL:=by have:=k.hi;have:=a.out.dL;omega
  have H2:=hid d;have R:=hid k;clear U p F n0 nf hw q J d k;go_cut [24] (fun _ E=>TAt y B D A c root vs ns E {s with next:=s.next+1,idx:=s.idx.set v (s.next+1),low:=s.low.set v (s.next+1)} sv zv/\TF y sv zv w E sv zv/\ABox y D E sv zv I v)
  case first=>
   go_region
   all_goals
    go_wp2;go_meet;exact⟨((H2.out.setI v (s.next+1)).setL v (s.next+1)).drew,((P.out.set y.rI v (by simp) _).set y.rL v (by simp) _).drew,
     R.out.kept a.out (((TF.refl _ _ _ _).set y.rI v (by simp) _).set y.rL v (by simp) _).drew⟩
  case rest=>
   obtain⟨u,Y,Q⟩:=hcut;clear i0 l0 a0 n1 rf lf xv yv q1 q2 q3 q4 q5 q6 q7 q8 q9 ac H2 R P;obtain⟨As,cs,r,_⟩:=u.stk.form;have s0:wc.cell? ⟨y.bS,0,none⟩=some (.slice As s.stk.length cs):=by rw[u.bS.cell 0];show some sv=_;rw[r]
   have a0:wc.cell? ⟨I,0,none⟩=some (.int .i64 (v:Int)):=Q.b.cell 0;have e0:=World.new_ne wc _ s0;have HO:Hid (OwnRow intL wc D 3 (.slice As s.stk.length cs) s.stk):=hid (by have:=u.stk;rw[r]at this;exact this);have ad:=hid r;have HT:=hid u;have HF:=hid Y;have HA:=hid Q;have hDw:=u.hd;clear r u Y Q;go_upto_region 3 with fail;go_cut [28] (fun _ E=>∃sv2,TAt y B D A c root vs ns E {s with next:=s.next+1,idx:=s.idx.set v (s.next+1),low:=s.low.set v (s.next+1),stk:=s.stk++[v]} sv2 zv/\TF y sv zv w E sv2 zv/\ABox y D E sv2 zv I v)
   case first=>
    go_wp2_with (at_builtin;go_must (refine zaa _ rfl (.tmp 28) (.tmp 30) 36 3 8 rfl intT D (.slice As s.stk.length cs) s.stk rfl (HO.out.alloc _) _ _ 1 [v] rfl (RowAt.lit1 _ _ rfl _ ?_) ?_ ?_ ?_))
    any_goals (first|rfl|omega| (simp;omega)| (rw[World.size_alloc];omega))
    intro v' w3 l x L;have j:=HT.out.alloc (.cells #[.int .i64 v] 3);rw[<-ad.out]at x L;have C:Blk w3 y.bS 36 _:=j.bS.grown x (fun e=>zby j.stk j.bS (by decide) e.symm);have pc3:w3.cell? ⟨y.bS,0,none⟩=some sv:=C.cell 0;have pf3:∀i,w3.frozen? ⟨y.bS,i,none⟩=false:=C.frozen;obtain⟨g3,z,S,_⟩:=l.shape (by simp);obtain⟨n3,O⟩:=ex ((s.stk++[v]).length)
    rw[O]at S;subst S;have V:=hid j;have aa:=hid l;have HG:=hid x;have Z:=hid L;clear j l x L C O;go_wp2;go_meet;have f1:=(TF.refl y sv zv wc).alloc (.cells #[.int .i64 v] 3);have t:(Value.slice (some ⟨g3,0,none⟩) n3 z).ownBlock=sv.ownBlock\/(Value.slice (some ⟨g3,0,none⟩) n3 z).ownBlock=some (wc.alloc (.cells #[.int .i64 v] 3)).heap.size:=by rw[World.size_alloc];exact Z.out
    have f2:=f1.trans (TF.grownS V.out HG.out t);exact⟨_,V.out.grownS aa.out HG.out t,HF.out.trans f2,HA.out.kept a.out f2⟩
   case rest=>
    obtain⟨ab,u,Y,Q⟩:=hcut;rename_i hK0;apply hK0;exact zlv hr hl hks HI.out T o W.out.1 W.out.2 IH.out w _ sv zv ab I u Y Q
end
end Go.Proofs.YtpgmfihonmoliaaGreatDoor

/- Walks: twice. Walks: same. -/
import Derived.Test.YtoigpackhninoaaGreatDoorZ10
import Derived.Test.YtoigpackhninoaaGreatDoorZ03
import Derived.Test.YtoigpackhninoaaGreatDoorZ02
namespace Go.Proofs.YtoigpackhninoaaGreatDoor
set_option maxRecDepth 100000
set_option maxHeartbeats 16000000
open Go.RowKit
theorem twice1_snoc (ns:List Gr.Nd) (f:Nat) (l:List Nat) (z:Nat):Gr.twice1 ns f (l++[z])=(Gr.twice1 ns f l || l.any (fun x=>Gr.sameF ns f z x)):=by
 induction l with
 |nil=>rfl
 |cons x l ih=>
  rw[List.cons_append];show((l++[z]).any (fun y=>Gr.sameF ns f y x) || Gr.twice1 ns f (l++[z]))=((l.any (fun y=>Gr.sameF ns f y x) || Gr.twice1 ns f l) || (x::l).any (fun x=>Gr.sameF ns f z x))
  rw[ih];simp only[List.any_append,List.any_cons,List.any_nil,Bool.or_false];cases l.any (fun y=>Gr.sameF ns f y x)<;>cases Gr.sameF ns f z x<;>cases Gr.twice1 ns f l<;>simp
theorem twice1_left (ns:List Gr.Nd) (f:Nat) (l m:List Nat) (h:Gr.twice1 ns f l=true):Gr.twice1 ns f (l++m)=true:=by
 induction m generalizing l with
 |nil=>simpa using h
 |cons x m ih=>
  rw[show l++x::m=(l++[x])++m from by simp];exact ih _ (by rw[twice1_snoc,h];rfl)
theorem twice1_take (ns:List Gr.Nd) (f:Nat) (l:List Nat) (k:Nat) (h:Gr.twice1 ns f (l.take k)=true):Gr.twice1 ns f l=true:=by
 have:=twice1_left ns f (l.take k) (l.drop k) h;rwa[List.take_append_drop]at this
def kdOf (ns:List Gr.Nd) (x:Nat):SK:=((ns.getD x ⟨0,[],false,[],[]⟩).kind,(ns.getD x ⟨0,[],false,[],[]⟩).text)
theorem same_kd {ns:List Gr.Nd} {f i j:Nat} (h:Gr.sameF ns f i j=true):kdOf ns i=kdOf ns j:=by
 cases f with
 |zero=>cases h
 |succ f=>
  unfold Gr.sameF at h;split at h
  ·rename_i a b ha hb;have e1:ns.getD i ⟨0,[],false,[],[]⟩=a:=by rw[List.getD_eq_getElem?_getD,ha];rfl
   have e2:ns.getD j ⟨0,[],false,[],[]⟩=b:=by rw[List.getD_eq_getElem?_getD,hb];rfl
   unfold kdOf;rw[e1,e2];split at h
   ·cases h
   ·rename_i hn;simp only[not_or,Classical.not_not]at hn;rw[hn.1,hn.2.1]
  ·cases h
theorem MapAt.later {w w':World} {D b:Nat} {gl:List (SK×List Nat)} {vs:List Value} {es:Array MapEntry} (h:MapAt w D b gl vs es) (hb:Below w.heap.size w w'):MapAt w' D b gl vs es:=
 ⟨(hb.block b (by have:=h.lo;have:=h.hd;omega)).trans h.blk,h.lv,h.le,h.at_,fun i a c=>(h.own i a c).later hb,h.ap,h.nd,h.lo,Nat.le_trans h.hd hb.size⟩
theorem MapAt.lookL {w:World} {D b:Nat} {gl:List (SK×List Nat)} {vs:List Value} {es:Array MapEntry} (h:MapAt w D b gl vs es) {kd:Nat->SK} {P:List Nat} (hg:GI kd P gl) (k:SK):
 ∃A c,(Instr.lookup 89 (.map (some b)) (skv k) false).run Tryz.prog w=.ok (.slice A (P.filter (fun x=>kd x==k)).length c) w/\RowAt intL w w.heap.size A (P.filter (fun x=>kd x==k)):=by
 rcases h.look k with⟨j,h1,h2,h3,h4⟩|⟨h1,h2⟩
 ·obtain⟨A,c,hv,hr⟩:=(h.own j h2 h1).form;have e:=hg.grp _ (List.getElem_mem h1);rw[h3]at e;rw[e]at hv hr;exact⟨A,c,by rw[h4,hv],hr⟩
 ·rw[hg.none h1];exact⟨none,0,h2,RowAt.nil⟩
theorem twice_any (F:Nat) (A:Option Addr) (c:Nat) (root:Int) (vs:List NV) (ns:List Gr.Nd) (hr:Gr.Refs ns) (hl:ns.length<=1073741823) (hks:∀n∈ns,n.keys.length<=1073741823/\n.items.length<=1073741823)
 (hsame:∀x∈Gr.allKeys ns,∀y∈Gr.allKeys ns,∀W,GAt W W.heap.size A vs ns->Calls Tryz.prog 64 #[.agg #[.slice A ns.length c,.int .i64 root],.int .i64 x,.int .i64 y] W fun e W'=>e=.returned (.bool (Gr.sameF ns F x y))/\Below W.heap.size W W')
 (w:World) (h:GAt w w.heap.size A vs ns):
 Calls Tryz.prog 38 #[.agg #[.slice A ns.length c,.int .i64 root]] w fun e w'=>e=.returned (.bool (Gr.twice ns F))/\Below w.heap.size w w':=by
 have H:=Lib.hid h;have HSAME:=Lib.hid hsame;have hmm:= @run_makeMap Tryz.prog;clear h hsame;go_enter Tryz.func38,Tryz.ntmps38;go_upto_region 1 with fail;obtain⟨w1,hw1⟩:∃w1,w.alloc (.cells #[.slice A ns.length c,.int .i64 root] 24)=w1:=⟨_,rfl⟩
 (try rw[hw1]);have l1:Below w.heap.size w w1:=by rw[<-hw1];exact(Below.refl _ _).alloc (Nat.le_refl _) _
 have b1:Blk w1 w.heap.size 24 #[.slice A ns.length c,.int .i64 root]:=by rw[<-hw1];exact Blk.new _ _ _
 obtain⟨gb,hgb⟩:∃gb,w.heap.size=gb:=⟨_,rfl⟩
 have HGB:=Lib.hid hgb;have L1:=Lib.hid l1;(try rw[hgb]);rw[hgb]at b1;have HB1:=Lib.hid b1;have H1:=Lib.hid (H.out.below l1);have g0:w1.cell? ⟨gb,0,none⟩=some (.slice A ns.length c):=b1.cell 0;have HGL:Hid (gb<w1.heap.size):=Lib.hid b1.lt;clear hw1 hgb l1 b1;go_upto_region 2 with fail;clear g0;go_loopw [14] (fun s14 wr=>∃j:Nat,j<=ns.length/\s14=.int .i64 j/\Hid (Below w1.heap.size w1 wr/\(ns.take j).any (fun x=>Gr.twice1 ns F x.keys)=false)) (fun s14 _=>ns.length-(intOf s14).toNat)
 case atStart=>exact⟨0,by omega,rfl,Lib.hid ⟨Below.refl _ _,by simp⟩⟩
 case round=>
  obtain⟨j,hj,rfl,HW⟩:=hrel;obtain⟨wq,hwq⟩:∃wq,wq=wr:=⟨_,rfl⟩
  subst hwq;by_cases hlt:j<ns.length
  ·have hltI:(j:Int)<(ns.length:Int):=by omega
   have HGQ:Hid (gb<wq.heap.size/\w1.heap.size<=wq.heap.size):=Lib.hid ⟨by have:=HW.out.1.size;have:=HGL.out;omega,HW.out.1.size⟩;obtain⟨ad,ks,is,rfl,hN⟩:=(H1.out.below (HW.out.1.mono (by have:=HGL.out;have:=HGB.out;omega))).node hlt;obtain⟨ka,kn,kc⟩:=ks;obtain⟨ia,inn,ic⟩:=is;have hnm:ns[j]∈ns:=List.getElem_mem hlt;obtain⟨hkl,hil⟩:=hks _ hnm;have HAK:Hid (∀x∈ns[j].keys,x∈Gr.allKeys ns/\x<ns.length):=Lib.hid (fun x hx=>⟨List.mem_flatMap.2 ⟨_,hnm,hx⟩,hr _ hnm x (List.mem_append_left _ hx)⟩);have HTJ:Hid ((ns.take (j+1)).any (fun x=>Gr.twice1 ns F x.keys)=Gr.twice1 ns F ns[j].keys/\(Gr.twice1 ns F ns[j].keys=true->Gr.twice ns F=true)):=Lib.hid ⟨by
    rw[List.take_succ_eq_append_getElem hlt,List.any_append,HW.out.2];simp,fun e=>List.any_eq_true.2 ⟨_,hnm,e⟩⟩
   obtain⟨n,hn⟩:∃n,ns[j]=n:=⟨_,rfl⟩
   rw[hn]at hN hkl hil HAK HTJ;obtain rfl:kn=n.keys.length:=hN.kn;obtain rfl:inn=n.items.length:=hN.inn;have x0:=hN.c0;have x1:=hN.c1;have x2:=hN.c2;have x3:=hN.c3;have x4:=hN.c4;have HKR:=Lib.hid hN.keys;clear hN hnm hn;go_upto_region 5 with fail;obtain⟨w5,hw5⟩:∃w5,(wq.alloc (.cells #[.int .i64 n.kind,.string ⟨n.text.toArray⟩,.bool n.ord,.slice ka n.keys.length kc,.slice ia n.items.length ic] 35)).alloc (.map #[] 0)=w5:=⟨_,rfl⟩
   obtain⟨lb,hlb⟩:∃lb,wq.heap.size=lb:=⟨_,rfl⟩
   have b5:Blk w5 lb 35 #[.int .i64 n.kind,.string ⟨n.text.toArray⟩,.bool n.ord,.slice ka n.keys.length kc,.slice ia n.items.length ic]:=by rw[<-hw5,<-hlb];exact(Blk.new _ _ _).alloc _
   have m5:w5.heap[lb+1]? =some (.map #[] 0):=by
    rw[<-hw5,<-hlb];have:=heap_alloc_new (wq.alloc (.cells #[.int .i64 n.kind,.string ⟨n.text.toArray⟩,.bool n.ord,.slice ka n.keys.length kc,.slice ia n.items.length ic] 35)) (.map #[] 0);rw[World.size_alloc]at this;exact this
   have l5:Below wq.heap.size wq w5:=by rw[<-hw5];exact((Below.refl _ _).alloc (Nat.le_refl _) _).alloc (by simp) _
   have hs5:w5.heap.size=lb+1+1:=by rw[<-hw5,<-hlb];simp
   obtain⟨mb,hmb⟩:∃mb,lb+1=mb:=⟨_,rfl⟩
   rw[hmb]at m5 hs5;have hM5:MapAt w5 (mb+1) mb [] [] #[]:=⟨m5,rfl,rfl,fun i h=>by simp at h,fun i h=>by simp at h,fun i j h=>by simp at h,by simp,by omega,by omega⟩
   obtain⟨D,hD⟩:∃D,mb+1=D:=⟨_,rfl⟩
   rw[hD]at hM5 hs5;have HLO:Hid (gb<lb/\lb+1=mb/\mb+1=D/\wq.heap.size=lb/\w5.heap.size=D):=Lib.hid ⟨by have:=HGQ.out;omega,hmb,hD,hlb,hs5⟩;have s3:w5.cell? ⟨lb,3,none⟩=some (.slice ka n.keys.length kc):=b5.cell 3;have HM5:=Lib.hid hM5;have HB5:=Lib.hid b5;have L5:Hid (Below lb wq w5):=Lib.hid (by rw[<-hlb];exact l5);have HK5:Hid (RowAt intL w5 gb ka n.keys):=Lib.hid (by
    have h1:=HKR.out;rw[HGB.out]at h1;exact h1.below (l5.mono (by have:=HGQ.out;omega)))
   rw[hw5];(try rw[hlb]);rw[hmb];clear hw5 b5 m5 l5 hs5 hmb hM5 hD hlb x0 x1 x2 x3 x4;go_upto_region 6 with fail;clear s3;go_loopw [22] (fun s22 wr=>∃k:Nat,k<=n.keys.length/\s22=.int .i64 k/\Hid (Below mb w5 wr/\(∃gl vs es,MapAt wr D mb gl vs es/\GI (kdOf ns) (n.keys.take k) gl)/\Gr.twice1 ns F (n.keys.take k)=false)) (fun s22 _=>n.keys.length-(intOf s22).toNat)
   case atStart=>exact⟨0,by omega,rfl,Lib.hid ⟨Below.refl _ _,⟨_,_,_,HM5.out,by simpa using GI.nil _⟩,by simp[Gr.twice1]⟩⟩
   case round=>
    obtain⟨k,hk,rfl,HV⟩:=hrel;obtain⟨wv,hwv⟩:∃wv,wv=wr:=⟨_,rfl⟩
    subst hwv;by_cases hlk:k<n.keys.length
    ·have hlkI:(k:Int)<(n.keys.length:Int):=by omega
     obtain⟨x,hx⟩:∃x,n.keys[k]=x:=⟨_,rfl⟩
     obtain⟨hxa,hxn⟩:=HAK.out n.keys[k] (List.getElem_mem hlk);rw[hx]at hxa hxn;have hbv:Below gb w5 wv:=HV.out.1.mono (by have:=HLO.out;omega);obtain⟨adk,rfl,hadk,y0⟩:=int_at (HK5.out.below hbv) hlk;rw[hx]at y0;have hxI:(x:Int)<(ns.length:Int):=by omega
     have g0:wv.cell? ⟨gb,0,none⟩=some (.slice (some ad) ns.length c):=(((HB1.out.below HW.out.1 HGL.out).below L5.out HLO.out.1).below HV.out.1 (by have:=HLO.out;omega)).cell 0;have hGv:GAt wv w.heap.size (some ad) vs ns:=((H1.out.below (HW.out.1.mono (by have:=HGL.out;have:=HGB.out;omega))).below (L5.out.mono (by have:=HGB.out;have:=HLO.out;omega))).below (HV.out.1.mono (by have:=HGB.out;have:=HLO.out;omega));obtain⟨ad',kx,ix,hade,hX⟩:=hGv.node hxn;injection hade with hade
     subst hade;have hkd:kdOf ns x=(ns[x].kind,ns[x].text):=by unfold kdOf;rw[List.getD_eq_getElem?_getD,List.getElem?_eq_getElem hxn];rfl
     obtain⟨nx,hnx⟩:∃nx,ns[x]=nx:=⟨_,rfl⟩
     rw[hnx]at hX hkd;have z0:=hX.c0;have z1:=hX.c1;have HKD:=Lib.hid hkd;have HXA:=Lib.hid hxa;have HX:=Lib.hid hx;clear hX hkd hnx hxa hx hbv hGv;go_upto_region 8 with fail;go_region_held3 (fun w'=>w'.cell? ⟨gb,0,none⟩=some (.slice (some ad) ns.length c)/\w'.cell? (ad.add (x*5))=some (.int .i64 nx.kind)/\w'.cell? {block:=(ad.add (x*5)).block,off:=(ad.add (x*5)).off+1}=some (.string ⟨nx.text.toArray⟩)) (go_keep) (fail);go_upto_region 9 with fail;obtain⟨w8,hw8⟩:∃w8,(wv.alloc (.cells #[.int .i64 nx.kind,.string ⟨nx.text.toArray⟩] 91)).drew=w8:=⟨_,rfl⟩
     obtain⟨sb,hsb⟩:∃sb,wv.heap.size=sb:=⟨_,rfl⟩
     have b8:Blk w8 sb 91 #[.int .i64 nx.kind,.string ⟨nx.text.toArray⟩]:=by rw[<-hw8,<-hsb];exact(Blk.new _ _ _).drew
     have l8:Below wv.heap.size wv w8:=by rw[<-hw8];exact below_drewN ((Below.refl _ _).alloc (Nat.le_refl _) _) 1
     have hs8:w8.heap.size=sb+1:=by rw[<-hw8,<-hsb];simp[World.drew]
     obtain⟨gl,vl,es,hM,hG⟩:=HV.out.2.1;have hM8:=hM.later l8;obtain⟨AL,cL,hlook,hrL⟩:=hM8.lookL hG (kdOf ns x);have hLs:∀y∈(n.keys.take k).filter (fun y=>kdOf ns y==kdOf ns x),y∈n.keys.take k:=fun y hy=>(List.mem_filter.1 hy).1
     have hLany:((n.keys.take k).filter (fun y=>kdOf ns y==kdOf ns x)).any (fun y=>Gr.sameF ns F x y)=false->(n.keys.take k).any (fun y=>Gr.sameF ns F x y)=false:=by
      intro h1;rw[List.any_eq_false]at h1 ⊢;intro y hy h2;exact h1 y (List.mem_filter.2 ⟨hy,by have:=same_kd h2;simp[this]⟩) h2
     have hLl:((n.keys.take k).filter (fun y=>kdOf ns y==kdOf ns x)).length<=1073741823:=Nat.le_trans (List.length_filter_le _ _) (Nat.le_trans (List.length_take_le _ _) (by omega));obtain⟨L,hL⟩:∃L,(n.keys.take k).filter (fun y=>kdOf ns y==kdOf ns x)=L:=⟨_,rfl⟩
     rw[hL]at hlook hrL hLs hLany hLl;rw[HKD.out]at hlook;unfold skv at hlook;simp only at hlook;obtain⟨t0,t1⟩:=cells2 b8;have HM8:Hid (∃gl vs es,MapAt w8 D mb gl vs es/\GI (kdOf ns) (n.keys.take k) gl):=Lib.hid ⟨gl,vl,es,hM8,hG⟩;have HS8:Hid (wv.heap.size=sb/\w8.heap.size=sb+1/\D<=sb):=Lib.hid ⟨hsb,hs8,by have:=hM.hd;omega⟩;have HV8:Hid (Below mb w5 w8/\Gr.twice1 ns F (n.keys.take k)=false):=Lib.hid ⟨HV.out.1.trans (l8.mono (by have:=hM.hd;have:=HLO.out;omega)),HV.out.2.2⟩;have HB8:=Lib.hid b8;have HRL:=Lib.hid hrL;have HLS:=Lib.hid hLs;have HLA:=Lib.hid hLany;rw[hw8];(try rw[hsb]);clear hw8 hsb b8 l8 hs8 hM hG hM8 hrL hLs hLany hL g0 z0 z1 y0;go_upto_region 10 with fail;clear hlook t0 t1;go_loopw [43] (fun s43 wr=>∃r:Nat,r<=L.length/\s43=.int .i64 r/\Hid (Below w8.heap.size w8 wr/\(L.take r).any (fun y=>Gr.sameF ns F x y)=false)) (fun s43 _=>L.length-(intOf s43).toNat)
     case atStart=>exact⟨0,by omega,rfl,Lib.hid ⟨Below.refl _ _,by simp⟩⟩
     case round=>
      obtain⟨r,hr2,rfl,HR⟩:=hrel;obtain⟨wx,hwx⟩:∃wx,wx=wr:=⟨_,rfl⟩
      subst hwx;have hbx:Below mb w5 wx:=HV8.out.1.trans (HR.out.1.mono (by have:=HS8.out;have:=HLO.out;omega));by_cases hrl:r<L.length
      ·have hrlI:(r:Int)<(L.length:Int):=by omega
       obtain⟨y,hy⟩:∃y,L[r]=y:=⟨_,rfl⟩
       have hyt:y∈n.keys.take k:=by rw[<-hy];exact HLS.out _ (List.getElem_mem hrl)
       have hyk:y∈n.keys:=List.mem_of_mem_take hyt;obtain⟨hya,hyn⟩:=HAK.out y hyk;obtain⟨adl,rfl,_,y0⟩:=int_at (HRL.out.below HR.out.1) hrl;rw[hy]at y0;have bgx:=(((HB1.out.below HW.out.1 HGL.out).below L5.out HLO.out.1).below hbx (by have:=HLO.out;omega))
       obtain⟨g0,g1⟩:=cells2 bgx;have hGx:GAt wx wx.heap.size (some ad) vs ns:=(((H1.out.below (HW.out.1.mono (by have:=HGL.out;have:=HGB.out;omega))).below (L5.out.mono (by have:=HGB.out;have:=HLO.out;omega))).below (hbx.mono (by have:=HGB.out;have:=HLO.out;omega))).more (by have:=HR.out.1.size;have:=HS8.out;have:=HLO.out;have:=HGB.out;omega);have HC:=Lib.hid (HSAME.out x HXA.out y hya wx hGx);have HTR:Hid ((L.take (r+1)).any (fun y=>Gr.sameF ns F x y)=Gr.sameF ns F x y):=Lib.hid (by rw[List.take_succ_eq_append_getElem hrl,List.any_append,HR.out.2,hy];simp);have HTT:Hid (Gr.sameF ns F x y=true->Gr.twice ns F=true):=Lib.hid (fun e=>HTJ.out.2 (by
        refine twice1_take ns F n.keys (k+1) ?_;rw[take_snocN _ _ hlk,twice1_snoc,HX.out];have:(n.keys.take k).any (fun z=>Gr.sameF ns F x z)=true:=List.any_eq_true.2 ⟨y,hyt,e⟩;rw[this];simp))
       obtain⟨b,hb⟩:∃b,Gr.sameF ns F x y=b:=⟨_,rfl⟩
       rw[hb]at HC HTR HTT;have HBW:Hid (Below w.heap.size w wx):=Lib.hid ((L1.out.trans (HW.out.1.mono (by have:=HGL.out;have:=HGB.out;omega))).trans ((L5.out.mono (by have:=HGB.out;have:=HLO.out;omega)).trans (hbx.mono (by have:=HGB.out;have:=HLO.out;omega))));have HBS:Hid (w.heap.size<=wx.heap.size/\w8.heap.size<=wx.heap.size):=Lib.hid ⟨HBW.out.size,HR.out.1.size⟩;clear bgx hGx hy hyk hyt hya hb hbx;go_wp2_with fail;refine HC.out.mono ?_;rintro e w9 ⟨rfl,hb9⟩;cases b with
       |true=>
        have HFIN:Hid (Gr.twice ns F=true/\Below w.heap.size w w9):=Lib.hid ⟨HTT.out rfl,HBW.out.trans (hb9.mono HBS.out.1)⟩;clear hb9;go_wp2_with fail;go_ret;rw[HFIN.out.1];exact⟨rfl,HFIN.out.2⟩
       |false=>
        have HNX:Hid (Below w8.heap.size w8 w9/\(L.take (r+1)).any (fun y=>Gr.sameF ns F x y)=false):=Lib.hid ⟨HR.out.1.trans (hb9.mono HBS.out.2),HTR.out⟩;clear hb9;go_wp2_with fail;go_roundw
        case rel=>exact⟨r+1,by omega,by go_num,HNX⟩
        case measure=>simp[intOf];omega
      ·have hrlI:¬(r:Int)<(L.length:Int):=by omega
       have htw:Gr.twice1 ns F (n.keys.take (k+1))=false:=by
        rw[take_snocN _ _ hlk,twice1_snoc,HX.out,HV8.out.2,HLA.out (by
         have:=HR.out.2;rwa[show r=L.length from by omega,List.take_length]at this)]
        rfl
       obtain⟨gl,vl,es,hM,hG⟩:=HM8.out;have hMx:=(hM.later HR.out.1).later ((Below.refl wx.heap.size wx).alloc (Nat.le_refl _) (.cells #[.int .i64 x] 3));obtain⟨wE,gl1,vs1,es1,jj,q1,q2,hE,hkE,hME,hjE,hor⟩:=hMx.entry (kdOf ns x);obtain⟨t0,t1⟩:=cells2 (HB8.out.below HR.out.1 HB8.out.lt);have hq:=(hME.own jj q2 q1)
       obtain⟨Aj,cj,hvj,hrj⟩:=hq.form;clear hrj;rw[hvj]at hE hq;rw[HKD.out]at hE;unfold skv at hE;simp only at hE;have hll:gl1[jj].2.length<=1073741823:=by
        have hsub:∀g∈gl,g.2.length<=k:=fun g hg=>by
         rw[hG.grp g hg];exact Nat.le_trans (List.length_filter_le _ _) (List.length_take_le _ _)
        have:∀g∈gl1,g.2.length<=k:=by
         rcases hor with rfl|⟨_,rfl⟩
         ·exact hsub
         ·intro g hg;rcases List.mem_append.1 hg with hg|hg
          ·exact hsub g hg
          ·simp at hg;subst hg;simp
        have:=this _ (List.getElem_mem q1);omega
       obtain⟨lj,hlj⟩:∃lj,gl1[jj].2=lj:=⟨_,rfl⟩
       rw[hlj]at hE hq hvj hll;have hlt4:wx.heap.size≠mb:=by have:=hM.lo;have:=hM.hd;have:=HR.out.1.size;omega
       have hrowE:RowAt intL wE (wx.heap.size+1) (some ⟨wx.heap.size,0,none⟩) [x]:=RowAt.ofBlk (hkE.blk (Blk.new wx 3 #[.int .i64 x]) hlt4) rfl (by omega);have HE:Hid (∃(q1:jj<gl1.length) (q2:jj<vs1.length),Kept1 mb (wx.alloc (.cells #[.int .i64 x] 3)) wE/\MapAt wE D mb gl1 vs1 es1/\gl1[jj].1=kdOf ns x/\(gl1=gl\/((∀g∈gl,g.1≠kdOf ns x)/\gl1=gl++[(kdOf ns x,[])]))/\gl1[jj].2=lj/\vs1[jj]=.slice Aj lj.length cj/\GI (kdOf ns) (n.keys.take k) gl):=Lib.hid ⟨q1,q2,hkE,hME,hjE,hor,hlj,hvj,hG⟩;have HTW:=Lib.hid htw;have HQ:=Lib.hid hq;have HROW:=Lib.hid hrowE;have HEH:Hid (D<=wE.heap.size):=Lib.hid hME.hd;have HBX:=Lib.hid hbx;have HSX:Hid (mb<=wx.heap.size):=Lib.hid (by have:=hbx.size;have:=HLO.out;omega);clear hM hG hMx hkE hME hjE hor hlj hvj hq hrowE htw hbx hlt4 q1 q2;go_wp2_with (at_builtin;go_must (refine wpList_append_row _ rfl (.tmp 54) (.tmp 56) 33 3 8 rfl intT D (.slice Aj lj.length cj) lj rfl HQ.out _ _ 1 [x] rfl HROW.out ?_ ?_ ?_))
       any_goals (first|exact HEH.out| (simp;omega))
       intro v' w3 hown hg hat;obtain⟨q1,q2,hkE,hME,hjE,hor,hlj,hvj,hG⟩:=HE.out;rw[<-hvj]at hg hat;obtain⟨w4,es3,hST,hk4,hM4⟩:=hME.store q1 q2 hown hg hat;have hG4:=hG.next q1 hjE hor hME.nd;rw[hlj]at hG4;have HNX:Hid (Below mb w5 w4/\(∃gl vs es,MapAt w4 D mb gl vs es/\GI (kdOf ns) (n.keys.take (k+1)) gl)/\Gr.twice1 ns F (n.keys.take (k+1))=false):=Lib.hid ⟨
        (((HBX.out.alloc HSX.out _).trans (hkE.below (Nat.le_refl _))).trans (((hME.own jj q2 q1).grown_below hg hME.hd).mono (by have:=HLO.out;omega))).trans (hk4.below (Nat.le_refl _)),
        ⟨_,_,_,hM4,by rw[take_snocN _ _ hlk,HX.out];exact hG4⟩,HTW.out⟩
       clear hown hg hat hkE hME hjE hor hlj hvj hG hk4 hM4 hG4 q1 q2;go_wp2_with fail;go_roundw
       case rel=>exact⟨k+1,by omega,by go_num,HNX⟩
       case measure=>simp[intOf];omega
    ·have hlkI:¬(k:Int)<(n.keys.length:Int):=by omega
     have HNX:Hid (Below w1.heap.size w1 wv/\(ns.take (j+1)).any (fun x=>Gr.twice1 ns F x.keys)=false):=Lib.hid ⟨(HW.out.1.trans (L5.out.mono (by have:=HGQ.out;have:=HLO.out;omega))).trans (HV.out.1.mono (by have:=HGQ.out;have:=HLO.out;omega)),by
      have:=HV.out.2.2;rw[show k=n.keys.length from by omega,List.take_length]at this;rw[HTJ.out.1,this]⟩
     go_wp2_with fail;go_roundw
     case rel=>exact⟨j+1,by omega,by go_num,HNX⟩
     case measure=>simp[intOf];omega
  ·have hltI:¬(j:Int)<(ns.length:Int):=by omega
   have HRES:Hid (Gr.twice ns F=false/\Below w.heap.size w wq):=Lib.hid ⟨by
    have:=HW.out.2;rw[show j=ns.length from by omega,List.take_length]at this;exact this,L1.out.trans (HW.out.1.mono (by have:=HGL.out;have:=HGB.out;omega))⟩
   go_wp2_with fail;go_ret;rw[HRES.out.1];exact⟨rfl,HRES.out.2⟩
end Go.Proofs.YtoigpackhninoaaGreatDoor
namespace Go.Proofs.YtoigpackhninoaaGreatDoor
set_option maxRecDepth 100000
set_option maxHeartbeats 16000000
namespace Gr
def Tall (ns:List Nd):Nat->Nat->Prop
 | 0,_=>False
 |f+1,i=>∀x∈succ ns i,Tall ns f x
def KF (ns:List Nd):Prop:=∀n∈ns,n.kind=10->n.keys.length=n.items.length
end Gr
open Go.RowKit
theorem str_eq (s t:Gr.Str):((⟨s.toArray⟩:ByteArray)==⟨t.toArray⟩)=(s==t):=by
 show(s.toArray==t.toArray)=_;simp
theorem succ_of {ns:List Gr.Nd} {i:Nat} (h:i<ns.length):Gr.succ ns i=ns[i].keys++ns[i].items:=by
 unfold Gr.succ;rw[List.getElem?_eq_getElem h]
def diff (a b:Gr.Nd):Bool:=a.kind != b.kind || a.text != b.text || a.ord != b.ord || a.items.length != b.items.length
theorem sameF_succ {ns:List Gr.Nd} {f i j:Nat} (hi:i<ns.length) (hj:j<ns.length):Gr.sameF ns (f+1) i j=(!diff ns[i] ns[j] && (if ns[i].kind=10/\ns[i].ord=false then(ns[i].keys.zip ns[i].items).all (fun x=>(ns[j].keys.zip ns[j].items).any (fun y=>Gr.sameF ns f x.1 y.1 && Gr.sameF ns f x.2 y.2))
 else(List.range ns[i].items.length).all (fun k=>(ns[i].kind != 10 || Gr.sameF ns f (ns[i].keys.getD k 0) (ns[j].keys.getD k 0)) && Gr.sameF ns f (ns[i].items.getD k 0) (ns[j].items.getD k 0)))):=by
 rw[Gr.sameF,List.getElem?_eq_getElem hi,List.getElem?_eq_getElem hj];simp only;by_cases hd:ns[i].kind≠ns[j].kind\/ns[i].text≠ns[j].text\/ns[i].ord≠ns[j].ord\/ns[i].items.length≠ns[j].items.length
 ·rw[if_pos hd];have:diff ns[i] ns[j]=true:=by
   unfold diff;rcases hd with h|h|h|h<;>simp[h]
  rw[this];rfl
 ·rw[if_neg hd];have:diff ns[i] ns[j]=false:=by
   simp only[not_or,Classical.not_not]at hd;unfold diff;simp[hd.1,hd.2.1,hd.2.2.1,hd.2.2.2]
  rw[this];simp
theorem same_any (A:Option Addr) (c:Nat) (root:Int) (vs:List NV) (ns:List Gr.Nd) (hr:Gr.Refs ns) (hkf:Gr.KF ns) (_hl:ns.length<=1073741823) (hks:∀n∈ns,n.keys.length<=1073741823/\n.items.length<=1073741823/\n.text.length<=1073741823):
 ∀(f i j:Nat) (w:World),i<ns.length->j<ns.length->Gr.Tall ns f i->GAt w w.heap.size A vs ns->
 Calls Tryz.prog 64 #[.agg #[.slice A ns.length c,.int .i64 root],.int .i64 i,.int .i64 j] w fun e w'=>e=.returned (.bool (Gr.sameF ns f i j))/\Below w.heap.size w w':=by
 intro f
 induction f with
 |zero=>intro i j w _ _ h;exact h.elim
 |succ f ih=>
  intro i j w hi hj hT h;have hres:=sameF_succ (f:=f) hi hj;have hsi:=succ_of hi;have hnmi:ns[i]∈ns:=List.getElem_mem hi;have hnmj:ns[j]∈ns:=List.getElem_mem hj;obtain⟨ki1,ki2,ki3⟩:=hks _ hnmi;obtain⟨kj1,kj2,kj3⟩:=hks _ hnmj;have hri:=hr _ hnmi;have hrj:=hr _ hnmj;have hfi:=hkf _ hnmi;have hfj:=hkf _ hnmj;have HIH:Hid (∀x∈ns[i].keys++ns[i].items,∀y∈ns[j].keys++ns[j].items,∀W,GAt W W.heap.size A vs ns->Calls Tryz.prog 64 #[.agg #[.slice A ns.length c,.int .i64 root],.int .i64 x,.int .i64 y] W fun e w'=>e=.returned (.bool (Gr.sameF ns f x y))/\Below W.heap.size W w'):=Lib.hid (fun x hx y hy W hW=>
   ih x y W (hri x hx) (hrj y hy) (hT x (by rw[hsi];exact hx)) hW)
  obtain⟨ad,ks,is,rfl,hNi⟩:=h.node hi;obtain⟨ka,kn,kc⟩:=ks;obtain⟨ia,inn,ic⟩:=is;obtain⟨ad',ks',is',hade,hNj⟩:=h.node hj;injection hade with hade
  subst hade;obtain⟨ka',kn',kc'⟩:=ks';obtain⟨ia',inn',ic'⟩:=is';obtain⟨a,ha⟩:∃a,ns[i]=a:=⟨_,rfl⟩
  obtain⟨b,hb⟩:∃b,ns[j]=b:=⟨_,rfl⟩
  rw[ha,hb]at hres HIH;rw[ha]at hNi ki1 ki2 ki3 hri hfi;rw[hb]at hNj kj1 kj2 kj3 hrj hfj;obtain rfl:kn=a.keys.length:=hNi.kn;obtain rfl:inn=a.items.length:=hNi.inn;obtain rfl:kn'=b.keys.length:=hNj.kn;obtain rfl:inn'=b.items.length:=hNj.inn;obtain⟨w1,hw1⟩:∃w1,w.alloc (.cells #[.slice (some ad) ns.length c,.int .i64 root] 24)=w1:=⟨_,rfl⟩
  have l1:Below w.heap.size w w1:=by rw[<-hw1];exact(Below.refl _ _).alloc (Nat.le_refl _) _
  have b1:Blk w1 w.heap.size 24 #[.slice (some ad) ns.length c,.int .i64 root]:=by rw[<-hw1];exact Blk.new _ _ _
  obtain⟨gb,hgb⟩:∃gb,w.heap.size=gb:=⟨_,rfl⟩
  have HGB:=Lib.hid hgb;rw[hgb]at b1;have g0:w1.cell? ⟨gb,0,none⟩=some (.slice (some ad) ns.length c):=b1.cell 0;have lti:=hNi.lt;have ltj:=hNj.lt;have c0:w1.cell? (ad.add (i*5))=some (.int .i64 a.kind):=(l1.cell lti).trans hNi.c0;have c1:w1.cell? {block:=(ad.add (i*5)).block,off:=(ad.add (i*5)).off+1}=some (.string ⟨a.text.toArray⟩):=(l1.cell (by exact lti)).trans hNi.c1;have c2:w1.cell? {block:=(ad.add (i*5)).block,off:=(ad.add (i*5)).off+2}=some (.bool a.ord):=(l1.cell (by exact lti)).trans hNi.c2;have c3:w1.cell? {block:=(ad.add (i*5)).block,off:=(ad.add (i*5)).off+3}=some (.slice ka a.keys.length kc):=(l1.cell (by exact lti)).trans hNi.c3;have c4:w1.cell? {block:=(ad.add (i*5)).block,off:=(ad.add (i*5)).off+4}=some (.slice ia a.items.length ic):=(l1.cell (by exact lti)).trans hNi.c4;have d0:w1.cell? (ad.add (j*5))=some (.int .i64 b.kind):=(l1.cell ltj).trans hNj.c0;have d1:w1.cell? {block:=(ad.add (j*5)).block,off:=(ad.add (j*5)).off+1}=some (.string ⟨b.text.toArray⟩):=(l1.cell (by exact ltj)).trans hNj.c1;have d2:w1.cell? {block:=(ad.add (j*5)).block,off:=(ad.add (j*5)).off+2}=some (.bool b.ord):=(l1.cell (by exact ltj)).trans hNj.c2;have d3:w1.cell? {block:=(ad.add (j*5)).block,off:=(ad.add (j*5)).off+3}=some (.slice ka' b.keys.length kc'):=(l1.cell (by exact ltj)).trans hNj.c3;have d4:w1.cell? {block:=(ad.add (j*5)).block,off:=(ad.add (j*5)).off+4}=some (.slice ia' b.items.length ic'):=(l1.cell (by exact ltj)).trans hNj.c4;have HR1:Hid (RowAt intL w1 gb ka a.keys/\RowAt intL w1 gb ia a.items/\RowAt intL w1 gb ka' b.keys/\RowAt intL w1 gb ia' b.items):=Lib.hid (by
   rw[<-hgb];exact⟨hNi.keys.below l1,hNi.items.below l1,hNj.keys.below l1,hNj.items.below l1⟩)
  have HG1:Hid (GAt w1 gb (some ad) vs ns):=Lib.hid (by rw[<-hgb];exact h.below l1);have L1:=Lib.hid l1;have HB1:=Lib.hid b1;have HGL:=Lib.hid b1.lt;have HRES:=Lib.hid hres;have HFI:=Lib.hid (And.intro hfi hfj);have hiI:(i:Int)<(ns.length:Int):=by omega
  have hjI:(j:Int)<(ns.length:Int):=by omega
  clear ih hT h hres hsi hnmi hnmj hri hrj hfi hfj hNi hNj ha hb l1 b1 lti ltj;go_enter Tryz.func64,Tryz.ntmps64;go_upto_region 1 with fail;(try rw[hw1]);(try rw[hgb]);clear hw1 hgb;go_cut [7,8] (fun s7 s8 wx=>∃g7 g8,s7=.pointer (some ⟨g7,0,none⟩)/\s8=.pointer (some ⟨g8,0,none⟩)/\Hid (Blk wx g7 35 #[.int .i64 a.kind,.string ⟨a.text.toArray⟩,.bool a.ord,.slice ka a.keys.length kc,.slice ia a.items.length ic]/\Blk wx g8 35 #[.int .i64 b.kind,.string ⟨b.text.toArray⟩,.bool b.ord,.slice ka' b.keys.length kc',.slice ia' b.items.length ic']/\Below w1.heap.size w1 wx))
  case first=>
   go_region_held3 (fun w'=>w'.cell? ⟨gb,0,none⟩=some (.slice (some ad) ns.length c)/\
    w'.cell? (ad.add (i*5))=some (.int .i64 a.kind)/\w'.cell? {block:=(ad.add (i*5)).block,off:=(ad.add (i*5)).off+1}=some (.string ⟨a.text.toArray⟩)/\w'.cell? {block:=(ad.add (i*5)).block,off:=(ad.add (i*5)).off+2}=some (.bool a.ord)/\
    w'.cell? {block:=(ad.add (i*5)).block,off:=(ad.add (i*5)).off+3}=some (.slice ka a.keys.length kc)/\w'.cell? {block:=(ad.add (i*5)).block,off:=(ad.add (i*5)).off+4}=some (.slice ia a.items.length ic)/\
    w'.cell? (ad.add (j*5))=some (.int .i64 b.kind)/\w'.cell? {block:=(ad.add (j*5)).block,off:=(ad.add (j*5)).off+1}=some (.string ⟨b.text.toArray⟩)/\w'.cell? {block:=(ad.add (j*5)).block,off:=(ad.add (j*5)).off+2}=some (.bool b.ord)/\
    w'.cell? {block:=(ad.add (j*5)).block,off:=(ad.add (j*5)).off+3}=some (.slice ka' b.keys.length kc')/\w'.cell? {block:=(ad.add (j*5)).block,off:=(ad.add (j*5)).off+4}=some (.slice ia' b.items.length ic'))
     (first|go_keep| (simp[go_sem])) (fail)
   all_goals
    go_wp2_with fail;go_meet
   ·refine⟨w1.heap.size,w1.heap.size+1,rfl,rfl,Lib.hid ⟨(Blk.new _ _ _).alloc _,?_,((((Below.refl w1.heap.size w1).alloc (Nat.le_refl _) _).alloc (by simp) _).drew)⟩⟩;have:=Blk.new (w1.alloc (.cells #[.int .i64 a.kind,.string ⟨a.text.toArray⟩,.bool a.ord,.slice ka a.keys.length kc,.slice ia a.items.length ic] 35)) 35 #[.int .i64 b.kind,.string ⟨b.text.toArray⟩,.bool b.ord,.slice ka' b.keys.length kc',.slice ia' b.items.length ic'];rw[World.size_alloc]at this;exact this
   ·refine⟨w1.heap.size+1,w1.heap.size,rfl,rfl,Lib.hid ⟨?_,(Blk.new _ _ _).alloc _,((((Below.refl w1.heap.size w1).alloc (Nat.le_refl _) _).alloc (by simp) _).drew)⟩⟩;have:=Blk.new (w1.alloc (.cells #[.int .i64 b.kind,.string ⟨b.text.toArray⟩,.bool b.ord,.slice ka' b.keys.length kc',.slice ia' b.items.length ic'] 35)) 35 #[.int .i64 a.kind,.string ⟨a.text.toArray⟩,.bool a.ord,.slice ka a.keys.length kc,.slice ia a.items.length ic];rw[World.size_alloc]at this;exact this
  case rest=>
   rename_i wOld;obtain⟨g7,g8,rfl,rfl,HB⟩:=hcut;clear c0 c1 c2 c3 c4 d0 d1 d2 d3 d4 g0;have HBW:Hid (Below w.heap.size w wc):=Lib.hid (L1.out.trans (HB.out.2.2.mono L1.out.size));obtain⟨c0,c1,c2⟩:=cells3 HB.out.1;have c4:wc.cell? ⟨g7,4,none⟩=some (.slice ia a.items.length ic):=HB.out.1.cell 4;obtain⟨d0,d1,d2⟩:=cells3 HB.out.2.1;have d4:wc.cell? ⟨g8,4,none⟩=some (.slice ia' b.items.length ic'):=HB.out.2.1.cell 4;by_cases h1:a.kind=b.kind
   ·by_cases h2:a.text=b.text
    ·by_cases h3:a.ord=b.ord
     ·by_cases h4:a.items.length=b.items.length
      ·have HC:Hid (∀x∈a.keys++a.items,∀y∈b.keys++b.items,∀W,Below wc.heap.size wc W->Calls Tryz.prog 64 #[.agg #[.slice (some ad) ns.length c,.int .i64 root],.int .i64 x,.int .i64 y] W fun e W'=>Below wc.heap.size wc W'/\e=.returned (.bool (Gr.sameF ns f x y))):=Lib.hid (fun x hx y hy W hW=>
        (HIH.out x hx y hy W (((HG1.out.below (HB.out.2.2.mono (by have:=HGL.out;omega))).below (hW.mono (by have:=HGL.out;have:=HB.out.2.2.size;omega))).more (by have:=HGL.out;have:=HB.out.2.2.size;have:=hW.size;omega))).mono (fun e w' h=>⟨hW.trans (h.2.mono hW.size),h.1⟩))
       have HS:Hid (∀W,Below wc.heap.size wc W->W.cell? ⟨gb,0,none⟩=some (.slice (some ad) ns.length c)/\W.cell? ⟨gb,1,none⟩=some (.int .i64 root)/\W.cell? ⟨g7,0,none⟩=some (.int .i64 a.kind)/\W.cell? ⟨g7,3,none⟩=some (.slice ka a.keys.length kc)/\W.cell? ⟨g7,4,none⟩=some (.slice ia a.items.length ic)/\W.cell? ⟨g8,3,none⟩=some (.slice ka' b.keys.length kc')/\W.cell? ⟨g8,4,none⟩=some (.slice ia' b.items.length ic')):=Lib.hid (fun W hW=>by
        have q0:=(HB1.out.below HB.out.2.2 HGL.out).below hW (by have:=HGL.out;have:=HB.out.2.2.size;omega);have q1:=HB.out.1.below hW HB.out.1.lt;have q2:=HB.out.2.1.below hW HB.out.2.1.lt;exact⟨q0.cell 0,q0.cell 1,q1.cell 0,q1.cell 3,q1.cell 4,q2.cell 3,q2.cell 4⟩)
       have HRW:Hid (∀W,Below wc.heap.size wc W->RowAt intL W gb ka a.keys/\RowAt intL W gb ia a.items/\RowAt intL W gb ka' b.keys/\RowAt intL W gb ia' b.items):=Lib.hid (fun W hW=>by
        have l:=HB.out.2.2.trans (hW.mono HB.out.2.2.size);have l2:=l.mono (show gb<=w1.heap.size by have:=HGL.out;omega);exact⟨HR1.out.1.below l2,HR1.out.2.1.below l2,HR1.out.2.2.1.below l2,HR1.out.2.2.2.below l2⟩)
       have hdf:diff a b=false:=by unfold diff;simp[h1,h2,h3,h4]
       have hts:((⟨a.text.toArray⟩:ByteArray)==⟨a.text.toArray⟩)=true:=by rw[str_eq];simp
       rw[<-h1]at d0;rw[<-h2]at d1;rw[<-h3]at d2;rw[<-h4]at d4;have H4:=Lib.hid h4;by_cases hu:a.kind=10/\a.ord=false
       ·have hka:=HFI.out.1 hu.1;have hkb:=HFI.out.2 (h1.symm.trans hu.1);have HU:Hid (Gr.sameF ns (f+1) i j=(a.keys.zip a.items).all (fun x=>(b.keys.zip b.items).any (fun y=>Gr.sameF ns f x.1 y.1 && Gr.sameF ns f x.2 y.2))):=Lib.hid (by rw[HRES.out,hdf,if_pos hu];rfl);have HKA:=Lib.hid hka;have HKB:=Lib.hid hkb;rw[hu.1]at c0 d0;rw[hu.2]at c2 d2;have HUU:=Lib.hid hu;obtain⟨c3g0,c3g1,c3a0,c3,c3a4,d3,d34⟩:=HS.out wc (Below.refl _ _);clear c3g0 c3g1 c3a0 c3a4 d34;clear hu hka hkb hdf h1 h2 h3 h4;go_upto_region 6 with fail;clear c0 c1 c2 c3 c4 d0 d1 d2 d3 d4 hts;go_loopw [64] (fun s64 wr=>∃k:Nat,k<=a.keys.length/\s64=.int .i64 k/\Hid (Below wc.heap.size wc wr/\((a.keys.zip a.items).take k).all (fun x=>(b.keys.zip b.items).any (fun y=>Gr.sameF ns f x.1 y.1 && Gr.sameF ns f x.2 y.2))=true)) (fun s64 _=>a.keys.length-(intOf s64).toNat)
        case atStart=>exact⟨0,by omega,rfl,Lib.hid ⟨Below.refl _ _,by simp⟩⟩
        case round=>
         obtain⟨k,hk,rfl,HW⟩:=hrel;obtain⟨wq,hwq⟩:∃wq,wq=wr:=⟨_,rfl⟩
         subst hwq;by_cases hlt:k<a.keys.length
         ·have hltI:(k:Int)<(a.keys.length:Int):=by omega
          have hlt2:k<a.items.length:=by have:=HKA.out;omega
          have hlt2I:(k:Int)<(a.items.length:Int):=by omega
          obtain⟨x,hx⟩:∃x,a.keys[k]=x:=⟨_,rfl⟩
          obtain⟨X,hX⟩:∃X,a.items[k]=X:=⟨_,rfl⟩
          have HXM:Hid (x∈a.keys++a.items/\X∈a.keys++a.items):=Lib.hid ⟨List.mem_append_left _ (hx▸List.getElem_mem hlt),List.mem_append_right _ (hX▸List.getElem_mem hlt2)⟩;obtain⟨adk,rfl,_,y0⟩:=int_at (HRW.out wq HW.out.1).1 hlt;rw[hx]at y0;have HTK:Hid (((a.keys.zip a.items).take (k+1)).all (fun x=>(b.keys.zip b.items).any (fun y=>Gr.sameF ns f x.1 y.1 && Gr.sameF ns f x.2 y.2))=(b.keys.zip b.items).any (fun y=>Gr.sameF ns f x y.1 && Gr.sameF ns f X y.2)):=Lib.hid (by
           rw[all_takeS _ _ _ (by simp;omega),HW.out.2,List.getElem_zip,hx,hX];rfl)
          obtain⟨g0,g1,a0,c3,c4,d3,d4⟩:=HS.out wq HW.out.1;have HWX:=Lib.hid hx;have HWXX:=Lib.hid hX;clear hx hX g0 g1 a0 c3 c4 d4;go_upto_region 10 with fail;clear y0 d3;go_loopw [11,72] (fun s11 s72 wr=>∃(l:Nat) (fb:Bool),l<=b.keys.length/\s72=.int .i64 l/\s11=.bool fb/\Hid (Below wc.heap.size wc wr/\fb=((b.keys.zip b.items).take l).any (fun y=>Gr.sameF ns f x y.1 && Gr.sameF ns f X y.2))) (fun _ s72 _=>b.keys.length-(intOf s72).toNat)
          case atStart=>exact⟨0,false,by omega,rfl,rfl,Lib.hid ⟨HW.out.1,by simp⟩⟩
          case round=>
           obtain⟨l,fb,hl2,rfl,rfl,HV⟩:=hrel;by_cases hll:l<b.keys.length
           ·have hllI:(l:Int)<(b.keys.length:Int):=by omega
            have hll2:l<b.items.length:=by have:=HKB.out;omega
            have hll2I:(l:Int)<(b.items.length:Int):=by omega
            obtain⟨wv,hwv⟩:∃wv,wv=wr:=⟨_,rfl⟩
            subst hwv;obtain⟨y,hy⟩:∃y,b.keys[l]=y:=⟨_,rfl⟩
            obtain⟨Y,hY⟩:∃Y,b.items[l]=Y:=⟨_,rfl⟩
            have hym:y∈b.keys++b.items:=List.mem_append_left _ (hy▸List.getElem_mem hll);have hYm:Y∈b.keys++b.items:=List.mem_append_right _ (hY▸List.getElem_mem hll2);obtain⟨r1,r2,r3,r4⟩:=HRW.out wv HV.out.1;obtain⟨adl,rfl,hadl,z0⟩:=int_at r3 hll;obtain⟨adX,rfl,hadX,z1⟩:=int_at r2 hlt2;obtain⟨adY,rfl,hadY,z2⟩:=int_at r4 hll2;rw[hy]at z0;rw[HWXX.out]at z1;rw[hY]at z2;obtain⟨g0,g1,a0,c3,c4,d3,d4⟩:=HS.out wv HV.out.1;have HTL:Hid (((b.keys.zip b.items).take (l+1)).any (fun y=>Gr.sameF ns f x y.1 && Gr.sameF ns f X y.2)=(fb || (Gr.sameF ns f x y && Gr.sameF ns f X Y))):=Lib.hid (by
             rw[List.take_succ_eq_append_getElem (by simp;omega),List.any_append,<-HV.out.2,List.getElem_zip,hy,hY];simp)
            have HC1:=Lib.hid (HC.out x HXM.out.1 y hym);have HC2:=Lib.hid (HC.out X HXM.out.2 Y hYm);have HSB:Hid (∀W,Below wc.heap.size wc W->W.cell? ⟨gb,0,none⟩=some (.slice (some ad) ns.length c)/\W.cell? ⟨gb,1,none⟩=some (.int .i64 root)/\W.cell? ⟨g7,4,none⟩=some (.slice (some adX) a.items.length ic)/\W.cell? ⟨g8,4,none⟩=some (.slice (some adY) b.items.length ic')/\W.cell? (adX.add k)=some (.int .i64 X)/\W.cell? (adY.add l)=some (.int .i64 Y)):=Lib.hid (fun W hW=>by
             obtain⟨q0,q1,_,_,q4,_,q5⟩:=HS.out W hW;obtain⟨_,t2,_,t4⟩:=HRW.out W hW;obtain⟨e1,f1,_,f3⟩:=int_at t2 hlt2;obtain⟨e2,f4,_,f6⟩:=int_at t4 hll2;injection f1 with f1;injection f4 with f4
             subst f1;subst f4;rw[HWXX.out]at f3;rw[hY]at f6;exact⟨q0,q1,q4,q5,f3,f6⟩)
            clear r1 r2 r3 r4 hym hYm hy hY a0 c3 d3;go_upto_region 12 with fail;have HC12:Hid (∀W:WB wc.heap.size wc,Calls Tryz.prog 64 #[.agg #[.slice (some ad) ns.length c,.int .i64 root],.int .i64 x,.int .i64 y] W.w (fun e W'=>e=.returned (.bool (Gr.sameF ns f x y))/\Below wc.heap.size wc W')/\Calls Tryz.prog 64 #[.agg #[.slice (some ad) ns.length c,.int .i64 root],.int .i64 X,.int .i64 Y] W.w (fun e W'=>e=.returned (.bool (Gr.sameF ns f X Y))/\Below wc.heap.size wc W')):=Lib.hid (fun W=>⟨(HC1.out W.w W.h).mono (fun _ _ h=>⟨h.2,h.1⟩),(HC2.out W.w W.h).mono (fun _ _ h=>⟨h.2,h.1⟩)⟩);have p1:=fun W:WB wc.heap.size wc=>(HSB.out W.w W.h).1
            have p2:=fun W:WB wc.heap.size wc=>(HSB.out W.w W.h).2.1
            have p3:=fun W:WB wc.heap.size wc=>(HSB.out W.w W.h).2.2.1
            have p4:=fun W:WB wc.heap.size wc=>(HSB.out W.w W.h).2.2.2.1
            have p5:=fun W:WB wc.heap.size wc=>(HSB.out W.w W.h).2.2.2.2.1
            have p6:=fun W:WB wc.heap.size wc=>(HSB.out W.w W.h).2.2.2.2.2
            obtain⟨s1,hs1⟩:∃s1,Gr.sameF ns f x y=s1:=⟨_,rfl⟩
            obtain⟨s2,hs2⟩:∃s2,Gr.sameF ns f X Y=s2:=⟨_,rfl⟩
            rw[hs1,hs2]at HC12 HTL;clear hs1 hs2 HC1 HC2 g0 g1 c4 d4 z1 z2;cases fb<;>cases s1
            all_goals
             refine wp_region_grow wc.heap.size wc (by kernel_rfl) (by kernel_rfl) HV.out.1 ?_
             repeat (go_big_quiet_step ((first| (with_reducible refine Calls.grow (HC12.out _).1)| (with_reducible refine Calls.grow (HC12.out _).2))))
             refine wpQuiet_nil ?_;rintro _ ⟨wz,rfl⟩;go_wp2_with fail;go_roundw
             case rel=>
              first
               |exact⟨l+1,true,by omega,by go_num,rfl,Lib.hid ⟨wz.h,by rw[HTL.out];rfl⟩⟩
               |exact⟨l+1,s2,by omega,by go_num,rfl,Lib.hid ⟨wz.h,by rw[HTL.out];rfl⟩⟩
               |exact⟨l+1,false,by omega,by go_num,rfl,Lib.hid ⟨wz.h,by rw[HTL.out];rfl⟩⟩
             case measure=>simp[intOf];omega
           ·have hllI:¬(l:Int)<(b.keys.length:Int):=by omega
            have hfb:fb=(b.keys.zip b.items).any (fun y=>Gr.sameF ns f x y.1 && Gr.sameF ns f X y.2):=by
             have:=HV.out.2;rwa[List.take_of_length_le (by simp;omega)]at this
            cases fb with
            |true=>
             have HNX:Hid (((a.keys.zip a.items).take (k+1)).all (fun x=>(b.keys.zip b.items).any (fun y=>Gr.sameF ns f x.1 y.1 && Gr.sameF ns f x.2 y.2))=true):=Lib.hid (by rw[HTK.out,<-hfb]);clear hfb;go_wp2_with fail;go_roundw
             case rel=>exact⟨k+1,by omega,by go_num,Lib.hid ⟨HV.out.1,HNX.out⟩⟩
             case measure=>simp[intOf];omega
            |false=>
             have HFIN:Hid (Gr.sameF ns (f+1) i j=false):=Lib.hid (by
              rw[HU.out,List.all_eq_false];refine⟨(x,X),?_,by rw[<-hfb];simp⟩;have h1:k<(a.keys.zip a.items).length:=by simp;omega
              have h2:(a.keys.zip a.items)[k]=(x,X):=by rw[List.getElem_zip,HWX.out,HWXX.out]
              rw[<-h2];exact List.getElem_mem h1)
             clear hfb;go_wp2_with fail;go_ret;rw[HFIN.out];exact⟨rfl,HBW.out.trans (HV.out.1.mono HBW.out.size)⟩
         ·have hltI:¬(k:Int)<(a.keys.length:Int):=by omega
          have HFIN:Hid (Gr.sameF ns (f+1) i j=true):=Lib.hid (by
           have:=HW.out.2;rw[List.take_of_length_le (by simp;omega)]at this;rw[HU.out,this])
          go_wp2_with fail;go_ret;rw[HFIN.out];exact⟨rfl,HBW.out.trans (HW.out.1.mono HBW.out.size)⟩
       ·have HU:Hid (Gr.sameF ns (f+1) i j=(List.range a.items.length).all (fun k=>(a.kind != 10 || Gr.sameF ns f (a.keys.getD k 0) (b.keys.getD k 0)) && Gr.sameF ns f (a.items.getD k 0) (b.items.getD k 0))):=Lib.hid (by rw[HRES.out,hdf,if_neg hu];rfl);have HKK:Hid (a.kind=10->a.keys.length=a.items.length/\b.keys.length=b.items.length):=Lib.hid (fun e=>⟨HFI.out.1 e,HFI.out.2 (h1.symm.trans e)⟩);obtain⟨kd,hkd⟩:∃kd,a.kind=kd:=⟨_,rfl⟩
        obtain⟨od,hod⟩:∃od,a.ord=od:=⟨_,rfl⟩
        rw[hkd]at c0 d0 HKK HS HU hu;rw[hod]at c2 d2 hu;have HUN:=Lib.hid hu;clear hkd hod hdf h1 h2 h3 h4 hu;by_cases hk10:kd=10
        ·subst hk10;cases od with
         |false=>exact absurd ⟨rfl,rfl⟩ HUN.out
         |true=>
          go_upto_region 19 with fail;clear c0 c1 c2 c4 d0 d1 d2 d4;go_loopw [105] (fun s105 wr=>∃k:Nat,k<=a.items.length/\s105=.int .i64 k/\Hid (Below wc.heap.size wc wr/\(List.range k).all (fun k=>((10:Int) != 10 || Gr.sameF ns f (a.keys.getD k 0) (b.keys.getD k 0)) && Gr.sameF ns f (a.items.getD k 0) (b.items.getD k 0))=true)) (fun s105 _=>a.items.length-(intOf s105).toNat)
          case atStart=>exact⟨0,by omega,rfl,Lib.hid ⟨Below.refl _ _,by simp⟩⟩
          case round=>
           obtain⟨k,hk,rfl,HW⟩:=hrel;by_cases hlt:k<a.items.length
           ·have hltI:(k:Int)<(a.items.length:Int):=by omega
            have hltb:k<b.items.length:=by have:=H4.out;omega
            have hltbI:(k:Int)<(b.items.length:Int):=by omega
            obtain⟨hka,hkb⟩:=HKK.out (by trivial);have hlt2:k<a.keys.length:=by omega
            have hlt2I:(k:Int)<(a.keys.length:Int):=by omega
            have hlt3:k<b.keys.length:=by have:=H4.out;omega
            have hlt3I:(k:Int)<(b.keys.length:Int):=by omega
            obtain⟨x,hx⟩:∃x,a.keys[k]=x:=⟨_,rfl⟩
            obtain⟨y,hy⟩:∃y,b.keys[k]=y:=⟨_,rfl⟩
            have hxm:x∈a.keys++a.items:=List.mem_append_left _ (hx▸List.getElem_mem hlt2);have hym:y∈b.keys++b.items:=List.mem_append_left _ (hy▸List.getElem_mem hlt3);obtain⟨wv,hwv⟩:∃wv,wv=wr:=⟨_,rfl⟩
            subst hwv;obtain⟨X,hX⟩:∃X,a.items[k]=X:=⟨_,rfl⟩
            obtain⟨Y,hY⟩:∃Y,b.items[k]=Y:=⟨_,rfl⟩
            have hXm:X∈a.keys++a.items:=List.mem_append_right _ (hX▸List.getElem_mem hlt);have hYm:Y∈b.keys++b.items:=List.mem_append_right _ (hY▸List.getElem_mem hltb);obtain⟨r1,r2,r3,r4⟩:=HRW.out wv HW.out.1;obtain⟨adx,rfl,_,z3⟩:=int_at r1 hlt2;obtain⟨ady,rfl,_,z4⟩:=int_at r3 hlt3;obtain⟨adX,rfl,_,z1⟩:=int_at r2 hlt;obtain⟨adY,rfl,_,z2⟩:=int_at r4 hltb;have HSB:Hid (∀W,Below wc.heap.size wc W->W.cell? ⟨gb,0,none⟩=some (.slice (some ad) ns.length c)/\W.cell? ⟨gb,1,none⟩=some (.int .i64 root)/\W.cell? ⟨g7,0,none⟩=some (.int .i64 10)/\W.cell? ⟨g7,4,none⟩=some (.slice (some adX) a.items.length ic)/\W.cell? ⟨g8,4,none⟩=some (.slice (some adY) b.items.length ic')/\W.cell? (adX.add k)=some (.int .i64 X)/\W.cell? (adY.add k)=some (.int .i64 Y)/\W.cell? ⟨g7,3,none⟩=some (.slice (some adx) a.keys.length kc)/\W.cell? ⟨g8,3,none⟩=some (.slice (some ady) b.keys.length kc')/\W.cell? (adx.add k)=some (.int .i64 x)/\W.cell? (ady.add k)=some (.int .i64 y)):=Lib.hid (fun W hW=>by
             obtain⟨q0,q1,q2,q3,q4,q6,q5⟩:=HS.out W hW;obtain⟨t1,t2,t3,t4⟩:=HRW.out W hW;obtain⟨e1,f1,_,f3⟩:=int_at t2 hlt;obtain⟨e2,f4,_,f6⟩:=int_at t4 hltb;injection f1 with f1;injection f4 with f4
             subst f1;subst f4;rw[hX]at f3;rw[hY]at f6;obtain⟨e3,f7,_,f9⟩:=int_at t1 hlt2;obtain⟨e4,f10,_,f12⟩:=int_at t3 hlt3;injection f7 with f7;injection f10 with f10
             subst f7;subst f10;rw[hx]at f9;rw[hy]at f12;exact⟨q0,q1,q2,q4,q5,f3,f6,q3,q6,f9,f12⟩)
            have HC12:Hid (∀W:WB wc.heap.size wc,Calls Tryz.prog 64 #[.agg #[.slice (some ad) ns.length c,.int .i64 root],.int .i64 x,.int .i64 y] W.w (fun e W'=>e=.returned (.bool (Gr.sameF ns f x y))/\Below wc.heap.size wc W')/\Calls Tryz.prog 64 #[.agg #[.slice (some ad) ns.length c,.int .i64 root],.int .i64 X,.int .i64 Y] W.w (fun e W'=>e=.returned (.bool (Gr.sameF ns f X Y))/\Below wc.heap.size wc W')):=Lib.hid (fun W=>⟨(HC.out x hxm y hym W.w W.h).mono (fun _ _ h=>⟨h.2,h.1⟩),(HC.out X hXm Y hYm W.w W.h).mono (fun _ _ h=>⟨h.2,h.1⟩)⟩);have p0:=fun W:WB wc.heap.size wc=>(HSB.out W.w W.h).1
            have p1:=fun W:WB wc.heap.size wc=>(HSB.out W.w W.h).2.1
            have p2:=fun W:WB wc.heap.size wc=>(HSB.out W.w W.h).2.2.1
            have p3:=fun W:WB wc.heap.size wc=>(HSB.out W.w W.h).2.2.2.1
            have p4:=fun W:WB wc.heap.size wc=>(HSB.out W.w W.h).2.2.2.2.1
            have p5:=fun W:WB wc.heap.size wc=>(HSB.out W.w W.h).2.2.2.2.2.1
            have p6:=fun W:WB wc.heap.size wc=>(HSB.out W.w W.h).2.2.2.2.2.2.1
            have p7:=fun W:WB wc.heap.size wc=>(HSB.out W.w W.h).2.2.2.2.2.2.2.1
            have p8:=fun W:WB wc.heap.size wc=>(HSB.out W.w W.h).2.2.2.2.2.2.2.2.1
            have p9:=fun W:WB wc.heap.size wc=>(HSB.out W.w W.h).2.2.2.2.2.2.2.2.2.1
            have p10:=fun W:WB wc.heap.size wc=>(HSB.out W.w W.h).2.2.2.2.2.2.2.2.2.2
            have gx:a.keys.getD k 0=x:=by rw[List.getD_eq_getElem?_getD,List.getElem?_eq_getElem hlt2,hx];rfl
            have gy:b.keys.getD k 0=y:=by rw[List.getD_eq_getElem?_getD,List.getElem?_eq_getElem hlt3,hy];rfl
            have gX:a.items.getD k 0=X:=by rw[List.getD_eq_getElem?_getD,List.getElem?_eq_getElem hlt,hX];rfl
            have gY:b.items.getD k 0=Y:=by rw[List.getD_eq_getElem?_getD,List.getElem?_eq_getElem hltb,hY];rfl
            obtain⟨s1,hs1⟩:∃s1,Gr.sameF ns f x y=s1:=⟨_,rfl⟩
            obtain⟨s2,hs2⟩:∃s2,Gr.sameF ns f X Y=s2:=⟨_,rfl⟩
            have HTK:Hid ((List.range (k+1)).all (fun k=>((10:Int) != 10 || Gr.sameF ns f (a.keys.getD k 0) (b.keys.getD k 0)) && Gr.sameF ns f (a.items.getD k 0) (b.items.getD k 0))=(s1 && s2)):=Lib.hid (by rw[List.range_succ,List.all_append,HW.out.2];simp only[List.all_cons,List.all_nil,Bool.true_and,Bool.and_true,gx,gy,gX,gY,hs1,hs2,bne_self_eq_false,Bool.false_or]);have HNO:Hid ((s1 && s2)=false->Gr.sameF ns (f+1) i j=false):=Lib.hid (fun e=>by
             rw[HU.out,List.all_eq_false];exact⟨k,List.mem_range.2 hlt,by simp only[gx,gy,gX,gY,hs1,hs2,bne_self_eq_false,Bool.false_or];rw[e];simp⟩)
            rw[hs1,hs2]at HC12;clear gx gy gX gY hs1 hs2 r1 r2 r3 r4 z1 z2 hx hy hxm hym hka hkb z3 z4 hX hY hXm hYm;go_upto_region 21 with fail;cases s1<;>cases s2
            all_goals
             refine wp_region_grow wc.heap.size wc (by kernel_rfl) (by kernel_rfl) HW.out.1 ?_
             repeat (go_big_quiet_step (((first| (with_reducible refine Calls.grow (HC12.out _).1)| (with_reducible refine Calls.grow (HC12.out _).2)))))
             refine wpQuiet_nil ?_;rintro _ ⟨wz,rfl⟩;clear p0 p1 p2 p3 p4 p5 p6 p7 p8 p9 p10;go_wp2_with fail
            all_goals first
             | (go_ret
                rw[HNO.out (by first|rfl|trivial)];exact⟨rfl,HBW.out.trans (wz.h.mono HBW.out.size)⟩)
             | (go_roundw
                case rel=>exact⟨k+1,by omega,by go_num,Lib.hid ⟨wz.h,by first| (rw[HTK.out];done)| (rw[HTK.out];rfl)⟩⟩
                case measure=>simp[intOf];omega)
           ·have hltI:¬(k:Int)<(a.items.length:Int):=by omega
            have HFIN:Hid (Gr.sameF ns (f+1) i j=true):=Lib.hid (by
             have:=HW.out.2;rw[show k=a.items.length from by omega]at this;rw[HU.out,this])
            go_wp2_with fail;go_ret;rw[HFIN.out];exact⟨rfl,HBW.out.trans (HW.out.1.mono HBW.out.size)⟩
        ·have hkb10:(kd==10)=false:=by simpa using hk10
         have hnb:(kd != 10)=true:=by simp[bne,hkb10]
         go_upto_region 19 with fail;clear c0 c1 c2 c4 d0 d1 d2 d4;go_loopw [105] (fun s105 wr=>∃k:Nat,k<=a.items.length/\s105=.int .i64 k/\Hid (Below wc.heap.size wc wr/\(List.range k).all (fun k=>(kd != 10 || Gr.sameF ns f (a.keys.getD k 0) (b.keys.getD k 0)) && Gr.sameF ns f (a.items.getD k 0) (b.items.getD k 0))=true)) (fun s105 _=>a.items.length-(intOf s105).toNat)
         case atStart=>exact⟨0,by omega,rfl,Lib.hid ⟨Below.refl _ _,by simp⟩⟩
         case round=>
          obtain⟨k,hk,rfl,HW⟩:=hrel;by_cases hlt:k<a.items.length
          ·have hltI:(k:Int)<(a.items.length:Int):=by omega
           have hltb:k<b.items.length:=by have:=H4.out;omega
           have hltbI:(k:Int)<(b.items.length:Int):=by omega
           obtain⟨wv,hwv⟩:∃wv,wv=wr:=⟨_,rfl⟩
           subst hwv;obtain⟨X,hX⟩:∃X,a.items[k]=X:=⟨_,rfl⟩
           obtain⟨Y,hY⟩:∃Y,b.items[k]=Y:=⟨_,rfl⟩
           have hXm:X∈a.keys++a.items:=List.mem_append_right _ (hX▸List.getElem_mem hlt);have hYm:Y∈b.keys++b.items:=List.mem_append_right _ (hY▸List.getElem_mem hltb);obtain⟨r1,r2,r3,r4⟩:=HRW.out wv HW.out.1;obtain⟨adX,rfl,_,z1⟩:=int_at r2 hlt;obtain⟨adY,rfl,_,z2⟩:=int_at r4 hltb;have HSB:Hid (∀W,Below wc.heap.size wc W->W.cell? ⟨gb,0,none⟩=some (.slice (some ad) ns.length c)/\W.cell? ⟨gb,1,none⟩=some (.int .i64 root)/\W.cell? ⟨g7,0,none⟩=some (.int .i64 kd)/\W.cell? ⟨g7,4,none⟩=some (.slice (some adX) a.items.length ic)/\W.cell? ⟨g8,4,none⟩=some (.slice (some adY) b.items.length ic')/\W.cell? (adX.add k)=some (.int .i64 X)/\W.cell? (adY.add k)=some (.int .i64 Y)):=Lib.hid (fun W hW=>by
            obtain⟨q0,q1,q2,q3,q4,q6,q5⟩:=HS.out W hW;obtain⟨t1,t2,t3,t4⟩:=HRW.out W hW;obtain⟨e1,f1,_,f3⟩:=int_at t2 hlt;obtain⟨e2,f4,_,f6⟩:=int_at t4 hltb;injection f1 with f1;injection f4 with f4
            subst f1;subst f4;rw[hX]at f3;rw[hY]at f6;exact⟨q0,q1,q2,q4,q5,f3,f6⟩)
           have HC12:Hid (∀W:WB wc.heap.size wc,True/\Calls Tryz.prog 64 #[.agg #[.slice (some ad) ns.length c,.int .i64 root],.int .i64 X,.int .i64 Y] W.w (fun e W'=>e=.returned (.bool (Gr.sameF ns f X Y))/\Below wc.heap.size wc W')):=Lib.hid (fun W=>⟨trivial,(HC.out X hXm Y hYm W.w W.h).mono (fun _ _ h=>⟨h.2,h.1⟩)⟩);have p0:=fun W:WB wc.heap.size wc=>(HSB.out W.w W.h).1
           have p1:=fun W:WB wc.heap.size wc=>(HSB.out W.w W.h).2.1
           have p2:=fun W:WB wc.heap.size wc=>(HSB.out W.w W.h).2.2.1
           have p3:=fun W:WB wc.heap.size wc=>(HSB.out W.w W.h).2.2.2.1
           have p4:=fun W:WB wc.heap.size wc=>(HSB.out W.w W.h).2.2.2.2.1
           have p5:=fun W:WB wc.heap.size wc=>(HSB.out W.w W.h).2.2.2.2.2.1
           have p6:=fun W:WB wc.heap.size wc=>(HSB.out W.w W.h).2.2.2.2.2.2
           have gX:a.items.getD k 0=X:=by rw[List.getD_eq_getElem?_getD,List.getElem?_eq_getElem hlt,hX];rfl
           have gY:b.items.getD k 0=Y:=by rw[List.getD_eq_getElem?_getD,List.getElem?_eq_getElem hltb,hY];rfl
           obtain⟨s2,hs2⟩:∃s2,Gr.sameF ns f X Y=s2:=⟨_,rfl⟩
           have HTK:Hid ((List.range (k+1)).all (fun k=>(kd != 10 || Gr.sameF ns f (a.keys.getD k 0) (b.keys.getD k 0)) && Gr.sameF ns f (a.items.getD k 0) (b.items.getD k 0))=s2):=Lib.hid (by rw[List.range_succ,List.all_append,HW.out.2];simp only[List.all_cons,List.all_nil,Bool.true_and,Bool.and_true,gX,gY,hs2,hnb,Bool.true_or]);have HNO:Hid (s2=false->Gr.sameF ns (f+1) i j=false):=Lib.hid (fun e=>by
            rw[HU.out,List.all_eq_false];exact⟨k,List.mem_range.2 hlt,by simp only[gX,gY,hs2,hnb,Bool.true_or,Bool.true_and];rw[e];simp⟩)
           rw[hs2]at HC12;clear gX gY hs2 r1 r2 r3 r4 z1 z2 hX hY hXm hYm;go_upto_region 21 with fail;cases s2
           all_goals
            refine wp_region_grow wc.heap.size wc (by kernel_rfl) (by kernel_rfl) HW.out.1 ?_
            repeat (go_big_quiet_step (((with_reducible refine Calls.grow (HC12.out _).2))))
            refine wpQuiet_nil ?_;rintro _ ⟨wz,rfl⟩;clear p0 p1 p2 p3 p4 p5 p6;go_wp2_with fail
           all_goals first
            | (go_ret
               rw[HNO.out (by first|rfl|trivial)];exact⟨rfl,HBW.out.trans (wz.h.mono HBW.out.size)⟩)
            | (go_roundw
               case rel=>exact⟨k+1,by omega,by go_num,Lib.hid ⟨wz.h,by first| (rw[HTK.out];done)| (rw[HTK.out];rfl)⟩⟩
               case measure=>simp[intOf];omega)
          ·have hltI:¬(k:Int)<(a.items.length:Int):=by omega
           have HFIN:Hid (Gr.sameF ns (f+1) i j=true):=Lib.hid (by
            have:=HW.out.2;rw[show k=a.items.length from by omega]at this;rw[HU.out,this])
           go_wp2_with fail;go_ret;rw[HFIN.out];exact⟨rfl,HBW.out.trans (HW.out.1.mono HBW.out.size)⟩
      ·have h4I:¬((a.items.length:Int)=(b.items.length:Int)):=by omega
       have h4b:((a.items.length:Int)==(b.items.length:Int))=false:=by simpa using h4I
       have hts:((⟨a.text.toArray⟩:ByteArray)==⟨a.text.toArray⟩)=true:=by rw[str_eq];simp
       have HF:Hid (Gr.sameF ns (f+1) i j=false):=Lib.hid (by rw[HRES.out];simp[diff,h4]);rw[<-h1]at d0;rw[<-h2]at d1;rw[<-h3]at d2;clear h1 h2 h3 h4;go_wp2_with fail;go_ret;rw[HF.out];exact⟨rfl,HBW.out⟩
     ·have HF:Hid (Gr.sameF ns (f+1) i j=false):=Lib.hid (by rw[HRES.out];simp[diff,h3]);have hts:((⟨a.text.toArray⟩:ByteArray)==⟨a.text.toArray⟩)=true:=by rw[str_eq];simp
      rw[<-h1]at d0;rw[<-h2]at d1;obtain⟨x,hx⟩:∃x,a.ord=x:=⟨_,rfl⟩
      obtain⟨y,hy⟩:∃y,b.ord=y:=⟨_,rfl⟩
      rw[hx]at c2 h3;rw[hy]at d2 h3;clear h1 h2 hx hy;cases x<;>cases y<;>first|exact absurd rfl h3|skip
      all_goals
       clear h3;go_wp2_with fail;go_ret;rw[HF.out];exact⟨rfl,HBW.out⟩
    ·have HF:Hid (Gr.sameF ns (f+1) i j=false):=Lib.hid (by rw[HRES.out];simp[diff,h2]);have hts:((⟨a.text.toArray⟩:ByteArray)==⟨b.text.toArray⟩)=false:=by rw[str_eq];simpa using h2
     rw[<-h1]at d0;clear h1;go_wp2_with fail;go_ret;rw[HF.out];exact⟨rfl,HBW.out⟩
   ·have HF:Hid (Gr.sameF ns (f+1) i j=false):=Lib.hid (by rw[HRES.out];simp[diff,h1]);have h1b:(a.kind==b.kind)=false:=by simpa using h1
    go_wp2_with fail;go_ret;rw[HF.out];exact⟨rfl,HBW.out⟩
end Go.Proofs.YtoigpackhninoaaGreatDoor

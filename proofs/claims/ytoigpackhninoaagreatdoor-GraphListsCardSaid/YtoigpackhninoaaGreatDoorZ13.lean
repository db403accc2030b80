import Derived.Test.YtoigpackhninoaaGreatDoorZ12
import Derived.Test.YtoigpackhninoaaGreatDoorZ18
namespace Go.Proofs.YtoigpackhninoaaGreatDoor
open Gr
open _root_.Go.Proofs.Tryz
open _root_.Go.Lib (hid)
set_option maxRecDepth 100000
set_option maxHeartbeats 16000000
open Go.RowKit
def zen (sclr:Int->Gr.Str->Bool) (l:List GArg) (w:World) (e:Ending) (w':World):Prop:=
 Below w.heap.size w w'/\(l.any (fun x=>x.chk sclr != 0)=true->e=.returned (.tuple #[gZero,.int .i64 3]))/\(l.any (fun x=>x.chk sclr != 0)=false->
  (checkG sclr (listN (l.map GArg.p)) 0≠0->e=.returned (.tuple #[gZero,.int .i64 (checkG sclr (listN (l.map GArg.p)) 0:Nat)]))/\
  (checkG sclr (listN (l.map GArg.p)) 0=0->∃A c vs,e=.returned (.tuple #[.agg #[.slice A (listN (l.map GArg.p)).length c,.int .i64 0],.int .i64 0])/\GAt w' w'.heap.size A vs (listN (l.map GArg.p))))
def ArgsOk (sclr:Int->Gr.Str->Bool) (w:World) (l:List GArg):Prop:=∀x∈l,ChkOk w x.v (x.chk sclr)
theorem zfl {α:Type} (f:α->Bool) (l:List α) (k:Nat) (hk:k<l.length) (h:f l[k]=true):l.any f=true:=List.any_eq_true.2 ⟨_,List.getElem_mem hk,h⟩
theorem zlh (T:World->Prop) (hT:Stays T) (sclr:Int->Gr.Str->Bool) (A:Option Addr) (c:Nat) (l:List GArg) (hl:l.length<=100000) (hks:∀x∈l,NH (x.is.map Gr.Ni.nd)) (hsc:∀x∈l,ScalsOk T sclr (x.is.map Gr.Ni.nd)) (w:World) (hTw:T w) (h:GsAt w w.heap.size A l) (hck:ArgsOk sclr w l)
 (hck2:l.any (fun x=>x.chk sclr != 0)=false->∀W A c vs,T W->GAt W W.heap.size A vs (listN (l.map GArg.p))->ChkOk W (.agg #[.slice A (listN (l.map GArg.p)).length c,.int .i64 0]) (checkG sclr (listN (l.map GArg.p)) 0)):
 Calls prog 19 #[.slice A l.length c] w (zen sclr l w):=by
 obtain⟨w1,ac⟩:=ex (w.alloc (.cells #[.slice none 0 0,.int .i64 0] 24))
 obtain⟨d,y⟩:=ex w.heap.size
 have aq:w1.heap.size=d+1:=by rw[<-ac,<-y];simp
 have l1:Below d w w1:=by rw[<-ac,<-y];exact(Below.refl _ _).alloc (Nat.le_refl _) _
 have b1:Blk w1 d 24 #[.slice none 0 0,.int .i64 0]:=by rw[<-ac,<-y];exact Blk.new _ _ _
 obtain⟨E,ak⟩:=ex (w1.alloc (.cells #[.int .i64 9,.string ⟨#[]⟩,.bool false,.slice none 0 0,.slice none 0 0] 35))
 have l2:Below (d+1) w1 E:=by rw[<-ak];exact(Below.refl _ _).alloc (by omega) _
 have b2:Blk E (d+1) 35 #[.int .i64 9,.string ⟨(([]:Gr.Str)).toArray⟩,.bool false,.slice none 0 0,.slice none 0 0]:=by rw[<-ak,<-aq];exact Blk.new _ _ _
 have aS:=Tab.one (B:=d+1) b2 (Nat.le_refl _);have am:Below d w E:=l1.trans (l2.mono (by omega));have bw:=hid aS;have aU:=hid am;have a7:Hid (GsAt E d A l):=hid (by have:=h.below (by rw[y];exact am);rwa[y]at this);have bF:Hid (ArgsOk sclr E l):=hid (fun x Q=>(hck x Q).later (by rw[y];exact am));have H:Hid (Blk E d 24 #[.slice none 0 0,.int .i64 0]):=hid (b1.below l2 (by omega));have bq:Hid (∀W,Below d w W->T W):=hid (fun W hW=>hT _ _ hTw (by rw[y];exact hW));have ao:Hid (E.heap.size=d+2):=hid (by rw[<-ak];simp[aq]);have aN:=hid y;have bn:=hid hks;have HSC:=hid hsc;have bo:=hid hck2;clear hTw h hck hck2 hks hsc l1 l2 b1 b2 aS am;go_enter func19,ntmps19;go_upto_region 1 with fail;(try rw[ac]);(try rw[y]);go_upto_region 2 with fail;(try rw[ak]);(try rw[aq]);clear ac y ak aq;go_upto_region 3 with fail;go_loopw [14] (fun s14 wr=>∃(j:Nat),j<=l.length/\s14=.int .i64 j/\Hid ((l.take j).any (fun x=>x.chk sclr != 0)=false/\Below E.heap.size E wr)) (fun s14 _=>l.length-(intOf s14).toNat)
 case atStart=>exact⟨0,by omega,rfl,hid ⟨rfl,Below.refl _ _⟩⟩
 case round=>
  obtain⟨j,hj,rfl,HW⟩:=hrel;obtain⟨wq,bC⟩:∃wq,wq=wr:=⟨_,rfl⟩
  subst bC;have aD:=H.out.below HW.out.2 H.out.lt;have ah:=hid aD;by_cases hlt:j<l.length
  ·have M:(j:Int)<(l.length:Int):=by omega
   obtain⟨ad,rfl,aQ,a0,a1⟩:=zk9 (a7.out.below (HW.out.2.mono (by have:=ao.out;omega))).row hlt;obtain⟨x,Q⟩:=ex (l[j])
   have O:x∈l:=by rw[<-Q];exact List.getElem_mem hlt
   have a2:Hid ((l.take (j+1)).any (fun x=>x.chk sclr != 0)=((l.take j).any (fun x=>x.chk sclr != 0) || x.chk sclr != 0)):=hid (by rw[List.take_succ_eq_append_getElem hlt,List.any_append,Q];simp);have ay:Hid (x.chk sclr≠0->l.any (fun x=>x.chk sclr != 0)=true):=hid (fun h=>zfl _ l j hlt (by rw[Q];simpa using h));rw[Q]at a0 a1;obtain⟨ck,hck⟩:=ex (x.chk sclr)
   have bz:Hid (ChkOk wq (.agg #[.slice x.a x.is.length x.c,.int .i64 x.root]) ck):=hid (by rw[<-hck];exact(bF.out x O).later HW.out.2);rw[hck]at a2 ay;clear Q hck aD;obtain⟨w6,C⟩:=ex (wq.alloc (.cells #[.slice x.a x.is.length x.c,.int .i64 x.root] 24))
   obtain⟨nb,f⟩:=ex wq.heap.size
   have l6:Below nb wq w6:=by rw[<-C,<-f];exact(Below.refl _ _).alloc (Nat.le_refl _) _
   have b6:Blk w6 nb 24 #[.slice x.a x.is.length x.c,.int .i64 x.root]:=by rw[<-C,<-f];exact Blk.new _ _ _
   obtain⟨c0,F⟩:=cells2 b6;have ax:E.heap.size<=nb:=by rw[<-f];exact HW.out.2.size
   have ae:Hid (Below E.heap.size E w6):=hid (HW.out.2.trans (l6.mono ax));have bE:Hid (ChkOk w6 (.agg #[.slice x.a x.is.length x.c,.int .i64 x.root]) ck):=hid (bz.out.later (by rw[f];exact l6));have HB6:Hid (Blk w6 d 24 #[.slice none 0 0,.int .i64 0]):=hid (H.out.below ae.out H.out.lt);clear l6 b6 ax;go_upto_region 5 with fail;(try rw[C]);(try rw[f]);clear C f a0 a1;go_wp2_with fail;refine(bE.out w6 (Below.refl _ _)).mono ?_;rintro e R ⟨rfl,u⟩;have az:=ae.out.size;have ai:=ae.out.trans (u.mono az);have ab:=hid ai;have z:=H.out.below ai H.out.lt;have af:=hid z;obtain⟨d0,d1⟩:=cells2 z;have df:∀i,R.frozen? ⟨d,i,none⟩=false:=z.frozen;clear u ai z az c0 F;by_cases h0:ck=0
   ·subst h0;go_wp2;go_roundw
    case rel=>exact⟨j+1,by omega,by go_num,hid ⟨by rw[a2.out,HW.out.1];rfl,ab.out⟩⟩
    case measure=>simp[intOf];omega
   ·have bB:((ck:Int)==0)=false:=by rw[beq_eq_false_iff_ne];omega
    have bD:=hid (ay.out h0);go_wp2_with fail;refine bodyPost_ret (v:=.tuple #[gZero,.int .i64 3]) (by rw[results_cell_tmp rfl];go_simp;rfl) rfl (And.intro ?_ (And.intro (fun _=>rfl) (fun N=>?_)))
    ·rw[aN.out];exact((aU.out.trans (ab.out.mono (by have:=ao.out;omega))).setCell (by simp) _).setCell (by simp) _
    ·rw[bD.out]at N;cases N
  ·have M:¬(j:Int)<(l.length:Int):=by omega
   have L:Hid (l.any (fun x=>x.chk sclr != 0)=false):=hid (by have:=HW.out.1;rwa[List.take_of_length_le (by omega)]at this);have aL:Hid (Tab (d+1) wq (.slice (some ⟨d+1,0,none⟩) 1 1) [⟨9,[],false,SV.nil,SV.nil⟩] [⟨9,[],false,[],[]⟩]/\Below (d+1) E wq):=hid ⟨bw.out.later HW.out.2,HW.out.2.mono (by have:=ao.out;omega)⟩;clear aD HW ah;go_upto_region 9 with fail;go_loopw [4,25] (fun s4 s25 wr=>∃(j:Nat) (A1:Option Addr) (n1 F:Nat) (vs1:List NV),j<=l.length/\s25=.int .i64 j/\s4=.slice A1 n1 F/\Hid (Tab (d+1) wr (.slice A1 n1 F) vs1 (listN ((l.take j).map GArg.p))/\Below (d+1) E wr/\(listN ((l.take j).map GArg.p)).length<=1+j*4096/\0<(listN ((l.take j).map GArg.p)).length/\∀m,(listN ((l.take j).map GArg.p)).head?=some m->m.items.length<=j)) (fun _ s25 _=>l.length-(intOf s25).toNat)
   case atStart=>exact⟨0,_,_,_,_,by omega,rfl,rfl,hid ⟨aL.out.1,aL.out.2,by simp[listN],by simp[listN],by simp[listN]⟩⟩
   case round=>
    clear hlt M hj;clear aL;obtain⟨j,A1,n1,F,vs1,hj,rfl,rfl,K⟩:=hrel;obtain⟨wp,bp⟩:∃wp,wp=wr:=⟨_,rfl⟩
    subst bp;have a5:Below d w wp:=aU.out.trans (K.out.2.1.mono (by omega));have bg:=hid a5;have ah:=hid (H.out.below K.out.2.1 (by omega));clear a5;by_cases hlt:j<l.length
    ·have M:(j:Int)<(l.length:Int):=by omega
     have bk:=hid (a7.out.below (K.out.2.1.mono (by omega)));obtain⟨ad,rfl,aQ,a0,a1⟩:=zk9 bk.out.row hlt;obtain⟨x,Q⟩:=ex (l[j])
     have O:x∈l:=by rw[<-Q];exact List.getElem_mem hlt
     rw[Q]at a0 a1;have av:x.chk sclr=0:=by
      have:=L.out;rw[List.any_eq_false]at this;have:=this x O;simpa using this
     obtain⟨bG,bl,aV⟩:=zq4 av;obtain⟨r,hr,br,bd,aJ⟩:=zq5 aV;rw[hr]at a1;obtain⟨o,s⟩:=ex (listN ((l.take j).map GArg.p))
     obtain⟨gs,S⟩:=ex (x.is.map Gr.Ni.nd)
     have aY:x.is.length=gs.length:=by rw[<-S];simp
     have U:Hid (listN ((l.take (j+1)).map GArg.p)=push0 (r+o.length) (o++gs.map (shN o.length))):=hid (by
      rw[List.take_succ_eq_append_getElem hlt,Q,List.map_append];unfold listN at s ⊢;rw[List.foldl_append,s];show lstep o x.p=_;unfold lstep GArg.p;rw[S,hr,Int.toNat_natCast])
     have ag:=(bk.out.each x O).toG bd;rw[S]at ag aJ;have aG:=bn.out x O;rw[S]at aG;rw[s]at K;rw[aY]at a0;have ba:=K.out.2.2.1;have aR:=K.out.2.2.2.1;have bm:=hid K.out.2.2.2.2;obtain⟨w6,C⟩:=ex (wp.alloc (.cells #[.slice x.a gs.length x.c,.int .i64 r] 24))
     obtain⟨nb,f⟩:=ex wp.heap.size
     have l6:Below nb wp w6:=by rw[<-C,<-f];exact(Below.refl _ _).alloc (Nat.le_refl _) _
     have b6:Blk w6 nb 24 #[.slice x.a gs.length x.c,.int .i64 r]:=by rw[<-C,<-f];exact Blk.new _ _ _
     obtain⟨z0,z1⟩:=cells2 b6;have a4:d+2<=nb:=by rw[<-f];have:=ao.out;have:=K.out.2.1.size;omega
     have aP:=ziv (d+1) x.a x.c r x.vs gs (.slice A1 n1 F) vs1 o (by omega) (by omega) aG aJ (by omega) w6 ((ag.below (l6.mono (by omega))).more (by omega)) (K.out.1.later (by rw[f];exact l6)) (by have:=b6.lt;omega);have bx:=hid aP;have ae:=hid (l6.mono (show d+1<=nb by omega));have P:Hid (o.length<=1+j*4096/\gs.length<=4096/\0<o.length/\d+2<=w6.heap.size):=hid ⟨ba,by omega,aR,by have:=b6.lt;omega⟩;clear l6 b6 aP ag aG aJ bG bl aV br bd av aY S s Q O hr a4 ba aR;go_upto_region 12 with fail;(try rw[C]);(try rw[f]);clear C f a0 a1;go_wp2_with fail;refine bx.out.mono ?_;rintro e R ⟨v7,au,rfl,I,u⟩;have Y:au≠[]:=by
      intro e;have:=I.rows.len;rw[e]at this;have:=P.out.2.2.1;simp at *;omega
     obtain⟨g,bh,rest,bb,Z,V,be,_⟩:=I.row.row Y;obtain⟨nn,ap⟩:=ex au.length
     rw[ap]at bb Z;subst bb;obtain⟨G,vl,rfl⟩:∃G vl,au=G::vl:=by cases au with
      |nil=>exact absurd rfl Y
      |cons a b=>exact⟨a,b,rfl⟩
     have D:=I.rows.len;obtain⟨m,nl,al⟩:∃m nl,o++gs.map (shN o.length)=m::nl:=by
      cases h:o++gs.map (shN o.length)with
      |nil=>rw[h]at D;cases D
      |cons a b=>exact⟨a,b,rfl⟩
     have hnn0:0<nn:=by rw[<-ap];simp
     have hnn0I:(0:Int)<(nn:Int):=by omega
     have HNN:Hid (nn=o.length+gs.length):=hid (by rw[<-ap,D];simp);rw[al]at I;have aO:=hid al;have ar:=hid I;have aZ:=hid V;have HBG:=hid be;have an:=hid u;have HCAP:=hid Z;have k4:R.cell? ⟨g,4,none⟩=some (.slice G.i.a G.i.n G.i.c):=V.cell 4;have bi:OwnRow intL R (d+1) 3 (.slice G.i.a G.i.n G.i.c) m.items:=I.rows.own 0 true;have a6:=hid bi;have aA:Hid (m.items.length<=j):=hid (bm.out m (by
      have h2:=aO.out;cases s:o with
      |nil=>have:=P.out.2.2.1;rw[s]at this;simp at this
      |cons a b=>rw[s]at h2;simp at h2;simp[h2.1]))
     obtain⟨k,hk⟩:=ex (r+o.length)
     have aT:(r:Int)+(o.length:Int)=(k:Int):=by omega
     rw[hk]at U;rw[aT];clear I V be u al D Y bi Z ap hk aT z0 z1;go_upto_region 13 with fail;go_wp2_with (at_builtin;go_must (refine zab _ rfl (.tmp 39) (.tmp 41) 33 3 8 rfl intT (d+1) (.slice G.i.a G.i.n G.i.c) m.items rfl (a6.out.alloc _) _ _ 1 [k] rfl (RowAt.lit1 _ _ rfl _ ?_) ?_ ?_ ?_))
     any_goals (first|rfl| (have:=aA.out;have:=an.out.size;have:=P.out.2.2.2;simp;omega))
     intro v8 w8 X hg bf;obtain⟨A8,c8,aX,_⟩:=X.form;obtain⟨q,hq⟩:=ex ((m.items++[k]).length)
     rw[hq]at aX;subst aX;clear hq;obtain⟨i,hi,aE,bs,aK⟩:=(ar.out.later ((Below.refl R.heap.size R).alloc (Nat.le_refl _) _)).push X hg (by rw[World.size_alloc];exact bf);have a8:KeptT 35 R w8:=(KeptT.alloc _ _ _).trans (KeptT.grown hg (a6.out.alloc _) (by decide));have aI:=a8 _ _ aZ.out;have k40:w8.cell? ⟨g,4,none⟩=some (.slice G.i.a G.i.n G.i.c):=aI.cell 4;have k4f:∀i,w8.frozen? ⟨g,i,none⟩=false:=aI.frozen;obtain⟨w9,aM⟩:=ex (w8.setCell ⟨g,4,none⟩ (.slice A8 q c8))
     rw[aM]at aE aK;have aC:=aK (by rw[World.size_alloc];have:=an.out.size;have:=P.out.2.2.2;omega);have aw:Below (d+1) E w9:=((((K.out.2.1.trans ae.out).trans an.out).alloc (by have:=an.out.size;have:=P.out.2.2.2;omega) _).trans aC)
     have bA:Hid (Tab (d+1) w9 (.slice (some ⟨g,0,none⟩) nn bh) ({G with i:=i}::vl) (listN ((l.take (j+1)).map GArg.p))/\Below (d+1) E w9/\(listN ((l.take (j+1)).map GArg.p)).length<=1+(j+1)*4096/\0<(listN ((l.take (j+1)).map GArg.p)).length/\∀m,(listN ((l.take (j+1)).map GArg.p)).head?=some m->m.items.length<=j+1):=hid (by
      rw[U.out,aO.out];have al:=congrArg List.length aO.out;simp only[List.length_append,List.length_map,List.length_cons]at al;have h1:=P.out;refine⟨aE,aw,?_,?_,?_⟩
      ·simp only[push0,List.length_cons];omega
      ·simp[push0]
      ·intro m' bc;simp[push0]at bc;subst bc;simp;exact aA.out)
     clear X hg bf hi aE bs aK a8 aI aC aw k4;go_wp2_with fail;(try rw[aM]);(try clear aM);go_roundw
     case rel=>exact⟨j+1,some ⟨g,0,none⟩,nn,bh,_,by omega,by go_num,rfl,bA⟩
     case measure=>simp[intOf];omega
    ·have M:¬(j:Int)<(l.length:Int):=by omega
     have bu:j=l.length:=by omega
     have a3:l.take j=l:=List.take_of_length_le (by omega);rw[a3]at K;obtain⟨o,s⟩:=ex (listN (l.map GArg.p))
     rw[s]at K;obtain⟨A9,c9,aH,aa⟩:=K.out.1.at_;injection aH with e1 e2 e3
     subst e1 e2 e3;obtain⟨ck,hck⟩:=ex (checkG sclr o 0)
     have a9:=hid (bo.out L.out);rw[s,hck]at a9;have J:Hid (listN (l.map GArg.p)=o/\checkG sclr o 0=ck):=hid ⟨s,hck⟩;have aW:ChkOk wp (.agg #[.slice A1 o.length F,.int .i64 0]) ck:=a9.out wp A1 F vs1 (bq.out wp bg.out) aa;have aF:=zj1 A1 o.length F 0 ck wp aW;unfold gZero at aF;have bt:=hid aF;have HG9:=hid aa;clear bu a3 s hck aW aF aa;go_upto_region 15 with fail;go_wp2_with fail;refine bt.out.mono ?_;rintro e R ⟨rfl,u⟩;have z:=ah.out.below u ah.out.lt;have aB:=bg.out.trans (u.mono (by have:=ah.out.lt;omega));have ab:=hid aB;have af:=hid z;have ar:=hid (K.out.1.later u);obtain⟨d0,d1⟩:=cells2 z;have df:∀i,R.frozen? ⟨d,i,none⟩=false:=z.frozen;clear u z aB;by_cases h0:ck=0
     ·subst h0;go_wp2_with fail;have bj:∀t,t≠24->KeptT t R ((R.setCell ⟨d,0,none⟩ (.slice A1 o.length F)).setCell ⟨d,1,none⟩ (.int .i64 0)):=fun t ht=>(KeptT.setCell (p:=⟨d,0,none⟩) af.out ht _).trans (KeptT.setCell (p:=⟨d,1,none⟩) (af.out.set_ 0 _) ht _)
      have aj:=(af.out.set_ 0 (.slice A1 o.length F)).set_ 1 (.int .i64 0);have e0:=aj.cell 0;have e1:=aj.cell 1;have bv:Tab (d+1) ((R.setCell ⟨d,0,none⟩ (.slice A1 o.length F)).setCell ⟨d,1,none⟩ (.int .i64 0)) (.slice A1 o.length F) vs1 o:=⟨ar.out.row.kept (bj _ (by decide)),ar.out.rows.kept (bj _ (by decide))⟩
      obtain⟨A9,c9,aH,aa⟩:=bv.at_;injection aH with f1 f2 f3
      subst f1 f3;refine bodyPost_ret (v:=.tuple #[.agg #[.slice A1 o.length F,.int .i64 0],.int .i64 0]) (by rw[results_cell_tmp rfl];go_simp) rfl (And.intro ?_ (And.intro (fun N=>?_) (fun _=>And.intro (fun N=>?_) (fun _=>?_))))
      ·rw[aN.out];exact(ab.out.setCell (by simp) _).setCell (by simp) _
      ·rw[L.out]at N;cases N
      ·rw[J.out.1,J.out.2]at N;exact absurd rfl N
      ·rw[J.out.1];exact⟨A1,F,vs1,rfl,aa⟩
     ·have bB:((ck:Int)==0)=false:=by rw[beq_eq_false_iff_ne];omega
      go_wp2_with fail;have aj:=(af.out.set_ 0 (.slice none 0 0)).set_ 1 (.int .i64 0);have e0:=aj.cell 0;have e1:=aj.cell 1;refine bodyPost_ret (v:=.tuple #[gZero,.int .i64 ck]) (by rw[results_cell_tmp rfl];go_simp;rfl) rfl (And.intro ?_ (And.intro (fun N=>?_) (fun _=>And.intro (fun _=>?_) (fun N=>?_))))
      ·rw[aN.out];exact(ab.out.setCell (by simp) _).setCell (by simp) _
      ·rw[L.out]at N;cases N
      ·rw[J.out.1,J.out.2]
      ·rw[J.out.1,J.out.2]at N;exact absurd N h0
def sclU (kind:Int) (text:Gr.Str):Bool:=if kind=0 then text.isEmpty else if kind=2 then intB text else if kind=5 then utfB text else false
def KU (ns:List Gr.Nd):Prop:=∀x∈ns,x.kind=0\/x.kind=2\/x.kind=5\/x.kind=9\/x.kind=10\/x.kind=11
theorem scalsU (ns:List Gr.Nd) (hk:KU ns) (hn:NH ns):ScalsOk UT sclU ns:=by
 intro x c e b a _ _ _;have d:=(hn x c).2.2;rcases hk x c with h|h|h|h|h|h
 ·rw[h];exact zih x.text
 ·rw[h];exact zel x.text d
 ·rw[h];exact zfd x.text d
 ·exact absurd h e
 ·exact absurd h b
 ·exact absurd h a
def nOne:Gr.Nd:=⟨2,[49],false,[],[]⟩
def nA:Gr.Nd:=⟨5,[97],false,[],[]⟩
def nsL:List Gr.Nd:=[⟨9,[],false,[],[1,2]⟩,nOne,nA]
def nsLoop:List Gr.Nd:=[⟨9,[],false,[],[0]⟩]
theorem zrq:checkG sclU nsL 0=0:=by decide+kernel
theorem zrr:checkG sclU nsLoop 0=0:=by decide+kernel
theorem znn:depth nsLoop 0=(0,false):=by decide+kernel
theorem zwx:intB [49]=true:=by decide+kernel
theorem zwy:intB [48,49]=false:=by decide+kernel
theorem zyn:utfB [97]=true:=by decide+kernel
theorem zwz:listN [([nOne.ni],0),([nA.ni],0)]=nsL:=by rfl
theorem ztx:checkI sclU [nOne.ni] 0=0:=by decide+kernel
theorem zx6:checkI sclU [nA.ni] 0=0:=by decide+kernel
theorem zcc (ns:List Gr.Nd) (h:(ns.all fun n=>decide (n.keys.length<=1000/\n.items.length<=1000/\n.text.length<=1000))=true):NH ns:=by
 intro n a;have:=List.all_eq_true.1 h n a;simp at this;omega
theorem za6 (ns:List Gr.Nd) (h:(ns.all fun n=>(n.keys++n.items).all fun r=>decide (r<ns.length))=true):Refs ns:=by
 intro n b r a;have:=List.all_eq_true.1 (List.all_eq_true.1 h n b) r a;simpa using this
theorem zbv (ns:List Gr.Nd) (h:(ns.all fun n=>n.kind==0 || n.kind==2 || n.kind==5 || n.kind==9 || n.kind==10 || n.kind==11)=true):KU ns:=by
 intro n a;have:=List.all_eq_true.1 h n a;simp at this;omega
theorem zb7 (A:Option Addr) (c:Nat) (vs:List NV) (ns:List Gr.Nd) (w:World) (hUT:UT w) (h1:NH ns) (h2:KU ns) (h3:Refs ns) (h4:0<ns.length) (h5:ns.length<=1073741823) (h:GAt w w.heap.size A vs ns):ChkOk w (.agg #[.slice A ns.length c,.int .i64 0]) (checkG sclU ns 0):=
 fun W a=>zq2 UT UT.stays sclU A c 0 vs ns h1 (scalsU ns h2 h1) h5 h3 h4 W (UT.stays _ _ hUT a) ((h.below a).more a.size)
theorem zty (w:World) (hUT:UT w):ChkOk w gZero 3:=by
 intro W b;have:=ze4 UT UT.stays sclU none 0 0 [] [] (by simp[NH]) (by simp[ScalsOk]) (by simp) W (UT.stays _ _ hUT b) ⟨?_,rfl,fun j h=>by simp at h,fun j h=>by simp at h⟩
 ·exact this
 ·exact(OwnRow.nil (L:=nodeL) (w:=W) (base:=0) (E:=35)).form.elim (fun A h=>by obtain⟨c,d,a⟩:=h;injection d with e1;subst e1;exact a)
theorem zha {w:World} {g:Nat} {kind:Int} {text:Gr.Str} (h:Blk w g 35 #[.int .i64 kind,.string ⟨text.toArray⟩,.bool false,.slice none 0 0,.slice none 0 0]):GAt w w.heap.size (some ⟨g,0,none⟩) [⟨kind,text,false,SV.nil,SV.nil⟩] [⟨kind,text,false,[],[]⟩]:=by
 obtain⟨A,c,b,a⟩:=(Tab.one (B:=0) h (Nat.zero_le _)).at_;injection b with e1 e2 e3
 subst e1;exact a
def argOf (g:Nat) (kind:Int) (text:Gr.Str):GArg:=⟨some ⟨g,0,none⟩,1,0,[⟨kind,text,false,SV.nil,SV.nil⟩],[(⟨kind,text,false,[],[]⟩:Gr.Nd).ni]⟩
open Go.RowKit
theorem ztz (A:Option Addr) (c g1 g2:Nat) (w:World) (hUT:UT w) (h1:Blk w g1 35 #[.int .i64 2,.string ⟨([49]:Gr.Str).toArray⟩,.bool false,.slice none 0 0,.slice none 0 0]) (h2:Blk w g2 35 #[.int .i64 5,.string ⟨([97]:Gr.Str).toArray⟩,.bool false,.slice none 0 0,.slice none 0 0])
 (hrow:RowAt argL w w.heap.size A [argOf g1 2 [49],argOf g2 5 [97]]):
 Calls Tryz.prog 19 #[.slice A 2 c] w fun e w'=>Below w.heap.size w w'/\∃A3 c3 vs,e=.returned (.tuple #[.agg #[.slice A3 3 c3,.int .i64 0],.int .i64 0])/\GAt w' w'.heap.size A3 vs nsL:=by
 have m:GArg.chk sclU (argOf g1 2 [49])=0:=ztx;have l:GArg.chk sclU (argOf g2 5 [97])=0:=zx6;have f:NH [nOne]:=zcc _ (by decide);have d:NH [nA]:=zcc _ (by decide);have q:=(zha h1).toI;have o:=(zha h2).toI;have a:listN ([argOf g1 2 [49],argOf g2 5 [97]].map GArg.p)=nsL:=zwz;have j:NH nsL:=zcc _ (by decide);have i:[argOf g1 2 [49],argOf g2 5 [97]].any (fun x=>x.chk sclU != 0)=false:=by simp[m,l]
 have h:=zlh UT UT.stays sclU A c [argOf g1 2 [49],argOf g2 5 [97]] (by simp)
  (by
    intro x b;simp at b;rcases b with rfl|rfl
    ·exact f
    ·exact d)
  (by
    intro x b;simp at b;rcases b with rfl|rfl
    ·exact scalsU [nOne] (zbv _ (by decide)) f
    ·exact scalsU [nA] (zbv _ (by decide)) d)
  w hUT ⟨hrow,by intro x b;simp at b;exact b.elim (fun e=>e▸q) (fun e=>e▸o)⟩
  (by
    intro x b;simp at b;rcases b with rfl|rfl
    ·rw[m];exact zb7 _ _ _ [nOne] w hUT f (zbv _ (by decide)) (za6 _ (by decide)) (by decide) (by decide) (zha h1)
    ·rw[l];exact zb7 _ _ _ [nA] w hUT d (zbv _ (by decide)) (za6 _ (by decide)) (by decide) (by decide) (zha h2))
  (by
    intro _ W A c vs r k;rw[a]at k ⊢;exact zb7 _ _ _ nsL W r j (zbv _ (by decide)) (za6 _ (by decide)) (by decide) (by decide) k)
 refine h.mono ?_;rintro e w' ⟨s,_,n⟩;refine⟨s,?_⟩;have g:=(n i).2;rw[a]at g;exact g zrq
theorem zt0 {w:World} {g gi:Nat} (h:Blk w g 35 #[.int .i64 9,.string ⟨#[]⟩,.bool false,.slice none 0 0,.slice (some ⟨gi,0,none⟩) 1 1]) (hi:Blk w gi 3 #[.int .i64 0]):∃vs,GAt w w.heap.size (some ⟨g,0,none⟩) vs nsLoop:=by
 have f:OwnRow intL w 0 3 (.slice (some ⟨gi,0,none⟩) 1 1) [0]:=zd3 (l:=[0]) hi (Nat.zero_le _) rfl (by decide);have a:=(Rows.nil 0 w).snoc ⟨9,[],false,SV.nil,⟨some ⟨gi,0,none⟩,1,1⟩⟩ ⟨9,[],false,[],[0]⟩ ⟨rfl,rfl,rfl⟩ OwnRow.nil f (fun g h=>by simp[SV.nil,SV.v,Value.ownBlock]at h) (fun j b g h=>by simp[ints,SV.nil,SV.v,Value.ownBlock]at h);have d:Tab 0 w (.slice (some ⟨g,0,none⟩) 1 1) [⟨9,[],false,SV.nil,⟨some ⟨gi,0,none⟩,1,1⟩⟩] nsLoop:=⟨⟨nodeL.all_len _,.inr ⟨g,1,_,rfl,Nat.zero_le _,h,Nat.le_refl _,by decide,rfl,rfl⟩⟩,a⟩
 obtain⟨A,c,e,i⟩:=d.at_;injection e with e1 e2 e3
 subst e1;exact⟨_,i⟩
theorem zt1 {w:World} {A:Option Addr} {c:Nat} {vs:List NV} (h:GAt w w.heap.size A vs nsLoop):DepOk w (.agg #[.slice A 1 c,.int .i64 0]) (0,false):=by
 intro W a;have:=zhx A c 0 vs nsLoop (za6 _ (by decide)) (by decide) (by intro n d;have:=zcc nsLoop (by decide) n d;exact⟨this.1,this.2.1⟩) (by decide)
  (by intro v b;have e:v=0:=by simp[nsLoop]at b;omega
      subst e;exact .refl _) W ((h.below a).more a.size)
 rw[znn]at this;exact this
theorem zrs (w:World) (hUT:UT w):Calls prog 13 #[] w fun e w'=>e=.returned (.bool true)/\Below w.heap.size w w':=by
 have aq:Hid (∀W,UT W->Calls prog 16 #[.int .i64 2,.string ⟨([49]:Gr.Str).toArray⟩] W fun e w'=>Below W.heap.size W w'/\∃g,W.heap.size<=g/\e=.returned (.tuple #[.agg #[.slice (some ⟨g,0,none⟩) 1 1,.int .i64 0],.int .i64 0])/\Blk w' g 35 #[.int .i64 2,.string ⟨([49]:Gr.Str).toArray⟩,.bool false,.slice none 0 0,.slice none 0 0]):=hid (fun W hW=>(zd4 UT UT.stays 2 [49] true (by decide) (by decide) (by rw[<-zwx];exact zel [49] (by decide)) W hW).mono (by
  rintro e w' ⟨hb,_,h⟩;exact⟨hb,h rfl⟩))
 have aH:Hid (∀W,UT W->Calls prog 16 #[.int .i64 5,.string ⟨([97]:Gr.Str).toArray⟩] W fun e w'=>Below W.heap.size W w'/\∃g,W.heap.size<=g/\e=.returned (.tuple #[.agg #[.slice (some ⟨g,0,none⟩) 1 1,.int .i64 0],.int .i64 0])/\Blk w' g 35 #[.int .i64 5,.string ⟨([97]:Gr.Str).toArray⟩,.bool false,.slice none 0 0,.slice none 0 0]):=hid (fun W hW=>(zd4 UT UT.stays 5 [97] true (by decide) (by decide) (by rw[<-zyn];exact zfd [97] (by decide)) W hW).mono (by
  rintro e w' ⟨hb,_,h⟩;exact⟨hb,h rfl⟩))
 have au:Hid (∀W,UT W->Calls prog 16 #[.int .i64 2,.string ⟨([48,49]:Gr.Str).toArray⟩] W fun e w'=>Below W.heap.size W w'/\e=.returned (.tuple #[.agg #[.slice none 0 0,.int .i64 0],.int .i64 3])):=hid (fun W hW=>(zd4 UT UT.stays 2 [48,49] false (by decide) (by decide) (by rw[<-zwy];exact zel [48,49] (by decide)) W hW).mono (by
  rintro e w' ⟨hb,h,_⟩;exact⟨hb,h rfl⟩))
 have a:=hid hUT;clear hUT;go_enter func13,ntmps13;go_upto_region 1 with fail;go_wp2_with fail;refine(aq.out w a.out).mono ?_;rintro e w1 ⟨ab,U,aL,rfl,av⟩;go_upto_region 2 with fail;obtain⟨w2,v⟩:=ex (w1.alloc (.cells #[.slice (some ⟨U,0,none⟩) 1 1,.int .i64 0] 24))
 obtain⟨n1,ah⟩:=ex w1.heap.size
 have B:Hid (Below w.heap.size w w2):=hid (by rw[<-v];exact ab.alloc ab.size _);have ac:Hid (Blk w2 U 35 #[.int .i64 2,.string ⟨([49]:Gr.Str).toArray⟩,.bool false,.slice none 0 0,.slice none 0 0]):=hid (by rw[<-v];exact av.alloc _);have ad:Hid (Blk w2 n1 24 #[.slice (some ⟨U,0,none⟩) 1 1,.int .i64 0]):=hid (by rw[<-v,<-ah];exact Blk.new _ _ _);have aI:=hid (UT.stays _ _ a.out B.out);clear ab aL av;(try rw[v]);(try rw[ah]);clear v ah;go_wp2_with fail;refine(aH.out w2 aI.out).mono ?_;rintro e w3 ⟨Y,V,aN,rfl,ai⟩;go_upto_region 3 with fail;obtain⟨w4,n⟩:=ex (w3.alloc (.cells #[.slice (some ⟨V,0,none⟩) 1 1,.int .i64 0] 24))
 obtain⟨n2,R⟩:=ex w3.heap.size
 have C:Below w2.heap.size w2 w4:=by rw[<-n];exact Y.alloc Y.size _
 have K:=hid (B.out.trans (C.mono B.out.size));have l:=hid (ac.out.below C ac.out.lt);have ax:=ad.out.below C ad.out.lt;have u:Hid (Blk w4 V 35 #[.int .i64 5,.string ⟨([97]:Gr.Str).toArray⟩,.bool false,.slice none 0 0,.slice none 0 0]):=hid (by rw[<-n];exact ai.alloc _);have aG:Blk w4 n2 24 #[.slice (some ⟨V,0,none⟩) 1 1,.int .i64 0]:=by rw[<-n,<-R];exact Blk.new _ _ _
 have am:=hid (UT.stays _ _ a.out K.out);obtain⟨a0,a1⟩:=cells2 ax;obtain⟨a2,a3⟩:=cells2 aG;clear Y aN ai C ax aG;(try rw[n]);(try rw[R]);clear n R;obtain⟨w5,z⟩:=ex (w4.alloc (.cells #[.slice (some ⟨U,0,none⟩) 1 1,.int .i64 0,.slice (some ⟨V,0,none⟩) 1 1,.int .i64 0] 24))
 obtain⟨n3,T⟩:=ex w4.heap.size
 have j:Below w4.heap.size w4 w5:=by rw[<-z];exact(Below.refl _ _).alloc (Nat.le_refl _) _
 have N:RowAt argL w5 w5.heap.size (some ⟨n3,0,none⟩) [argOf U 2 [49],argOf V 5 [97]]:=by
  have ho:OwnRow argL w5 0 24 (.slice (some ⟨n3,0,none⟩) 2 2) [argOf U 2 [49],argOf V 5 [97]]:=⟨argL.all_len _,.inr ⟨n3,2,_,rfl,Nat.zero_le _,by rw[<-z,<-T];exact Blk.new _ _ _,Nat.le_refl _,by decide,rfl,rfl⟩⟩
  obtain⟨A,c,hv,hg⟩:=ho.form;injection hv with e1 e2 e3
  subst e1;exact hg
 have Z:=hid (K.out.trans (j.mono K.out.size));have hl:=ztz (some ⟨n3,0,none⟩) 2 U V w5 (UT.stays _ _ am.out j) (l.out.below j l.out.lt) (u.out.below j u.out.lt) N;have HL:=hid hl;clear j N hl ad ac l u aq aH;go_wp2_with fail;(try rw[z]);(try rw[T]);clear z T a0 a1 a2 a3;refine HL.out.mono ?_;rintro e w6 ⟨ay,O,c3,F,rfl,ak⟩;go_upto_region 4 with fail;obtain⟨w7,J⟩:=ex (w6.alloc (.cells #[.slice O 3 c3,.int .i64 0] 24))
 obtain⟨n5,ag⟩:=ex w6.heap.size
 have y:Below w6.heap.size w6 w7:=by rw[<-J];exact(Below.refl _ _).alloc (Nat.le_refl _) _
 have t:=Z.out.trans (ay.mono Z.out.size);have G:=hid (t.trans (y.mono t.size));have aF:Hid (GAt w7 w7.heap.size O F nsL):=hid ((ak.below y).more y.size);have f:Hid (Blk w7 n5 24 #[.slice O 3 c3,.int .i64 0]):=hid (by rw[<-J,<-ag];exact Blk.new _ _ _);have aM:=hid (UT.stays _ _ a.out G.out);clear ay ak y t HL B K Z aI am;(try rw[J]);(try rw[ag]);clear J ag;go_wp2_with fail;refine(au.out w7 aM.out).mono ?_;rintro e w8 ⟨S,rfl⟩;go_upto_region 5 with fail;obtain⟨P,aa⟩:=ex (w8.alloc (.cells #[.slice none 0 0,.int .i64 0] 24))
 obtain⟨n7,aw⟩:=ex w8.heap.size
 have o:Below w7.heap.size w7 P:=by rw[<-aa];exact S.alloc S.size _
 have ae:=hid (G.out.trans (o.mono G.out.size));have aD:Hid (GAt P P.heap.size O F nsL):=hid ((aF.out.below o).more o.size);have m:=hid (f.out.below o f.out.lt);clear S o aF f au;(try rw[aa]);(try rw[aw]);clear aa aw;go_upto_region 6 with fail;obtain⟨s,hs⟩:=ex P.heap.size
 (try rw[hs]);obtain⟨wa,x⟩:=ex (P.alloc (.cells #[.int .i64 0] 3))
 have ba:Blk wa s 3 #[.int .i64 0]:=by rw[<-x,<-hs];exact Blk.new _ _ _
 have la:Below s P wa:=by rw[<-x,<-hs];exact(Below.refl _ _).alloc (Nat.le_refl _) _
 have sa:wa.heap.size=s+1:=by rw[<-x,<-hs];simp
 obtain⟨wb,p⟩:=ex (wa.alloc (.cells #[.int .i64 9,.string ⟨#[]⟩,.bool false,.slice none 0 0,.slice (some ⟨s,0,none⟩) 1 1] 35))
 have bb:Blk wb (s+1) 35 #[.int .i64 9,.string ⟨#[]⟩,.bool false,.slice none 0 0,.slice (some ⟨s,0,none⟩) 1 1]:=by rw[<-p,<-sa];exact Blk.new _ _ _
 have lb:Below (s+1) wa wb:=by rw[<-p];exact(Below.refl _ _).alloc (by omega) _
 have sb:wb.heap.size=s+2:=by rw[<-p];simp[sa]
 obtain⟨wc,E⟩:=ex (wb.alloc (.cells #[.slice (some ⟨s+1,0,none⟩) 1 1,.int .i64 0] 24))
 have bc:Blk wc (s+2) 24 #[.slice (some ⟨s+1,0,none⟩) 1 1,.int .i64 0]:=by rw[<-E,<-sb];exact Blk.new _ _ _
 have lc:Below (s+2) wb wc:=by rw[<-E];exact(Below.refl _ _).alloc (by omega) _
 have aE:Blk wc (s+1) 35 #[.int .i64 9,.string ⟨#[]⟩,.bool false,.slice none 0 0,.slice (some ⟨s,0,none⟩) 1 1]:=bb.below lc (by omega);have al:Blk wc s 3 #[.int .i64 0]:=(ba.below lb (by omega)).below lc (by omega);have b:Below P.heap.size P wc:=by rw[hs];exact la.trans ((lb.mono (by omega)).trans (lc.mono (by omega)))
 obtain⟨vl,I⟩:=zt0 aE al;have an:=hid I;have H:=hid (ae.out.trans (b.mono ae.out.size));have az:Hid (GAt wc wc.heap.size O F nsL):=hid ((aD.out.below b).more b.size);have i:=m.out.below b m.out.lt;have f:=hid i;have X:=hid bc;have ar:=hid (UT.stays _ _ a.out H.out);obtain⟨q0,q1⟩:=cells2 bc;have HD:Hid (Calls prog 22 #[.agg #[.slice (some ⟨s+1,0,none⟩) 1 1,.int .i64 0]] wc fun e w'=>e=.returned (.tuple #[.int .i64 0,.bool false])/\Below wc.heap.size wc w'):=hid (by
  have Q:=zb7 (some ⟨s+1,0,none⟩) 1 vl nsLoop wc ar.out (zcc _ (by decide)) (zbv _ (by decide)) (za6 _ (by decide)) (by decide) (by decide) I;rw[zrr]at Q;exact zq3 (some ⟨s+1,0,none⟩) 1 1 0 0 (0,false) wc Q (fun _=>zt1 I))
 (try rw[x]);(try rw[p]);(try rw[E]);clear hs x ba la sa p bb lb sb E bc lc aE al b I i aD m ae G;go_wp2_with fail;refine HD.out.mono ?_;rintro e wd ⟨rfl,d⟩;have L:=hid (H.out.trans (d.mono H.out.size));have ao:=hid (UT.stays _ _ a.out L.out);have i:=f.out.below d f.out.lt;have k:=X.out.below d X.out.lt;obtain⟨r0,r1⟩:=cells2 i;have q:=hid k;have aj:Hid (Calls prog 21 #[.agg #[.slice O 3 c3,.int .i64 0]] wd fun e w'=>e=.returned (.int .i64 3)/\Below wd.heap.size wd w'):=hid (by
  have Q:=zb7 O c3 F nsL wd ao.out (zcc _ (by decide)) (zbv _ (by decide)) (za6 _ (by decide)) (by decide) (by decide) ((az.out.below d).more d.size);rw[zrq]at Q;exact ztn O 3 c3 0 0 wd Q)
 have ap:Hid (GAt wd wd.heap.size (some ⟨s+1,0,none⟩) vl nsLoop):=hid ((an.out.below d).more d.size);clear d i k f X an az q0 q1 HD H ar;go_upto_region 7 with fail;go_wp2_with fail;refine aj.out.mono ?_;rintro e we ⟨rfl,r⟩;have M:=hid (L.out.trans (r.mono L.out.size));have aJ:=hid (UT.stays _ _ a.out M.out);have k:=q.out.below r q.out.lt;obtain⟨q0,q1⟩:=cells2 k;have aB:Hid (ChkOk we (.agg #[.slice (some ⟨s+1,0,none⟩) 1 1,.int .i64 0]) 0):=hid (by
  have Q:=zb7 (some ⟨s+1,0,none⟩) 1 vl nsLoop we aJ.out (zcc _ (by decide)) (zbv _ (by decide)) (za6 _ (by decide)) (by decide) (by decide) ((ap.out.below r).more r.size);rw[zrr]at Q;exact Q)
 clear r k r0 r1 q ap L ao aj;go_wp2_with fail;refine(aB.out we (Below.refl _ _)).mono ?_;rintro e wf ⟨rfl,aA⟩;have D:=hid (M.out.trans (aA.mono M.out.size));have af:=zty wf (UT.stays _ _ a.out D.out) wf (Below.refl _ _);unfold gZero at af;have aK:=hid af;clear aA af q0 q1 M aJ aB;go_wp2_with fail;refine aK.out.mono ?_;rintro e wg ⟨rfl,aC⟩;have aO:=hid (D.out.trans (aC.mono D.out.size));clear aC D aK;go_wp2;go_ret;exact⟨rfl,aO.out⟩
theorem zrt (A A2:Option Addr) (c c2:Nat) (root no:Int) (vs vs2:List NV) (is:List Gr.Ni) (hz:Sz is) (w:World) (h:IAt w w.heap.size A vs is) (h2:IAt w w.heap.size A2 vs2 is) (hck:no=0->ChkOk w (.agg #[.slice A is.length c,.int .i64 root]) 0):
 Calls prog 18 #[.agg #[.slice A is.length c,.int .i64 root],.int .i64 no,.agg #[.slice A2 is.length c2,.int .i64 root],.int .i64 no] w fun e w'=>e=.returned (.bool true)/\Below w.heap.size w w':=by
 have p:=hid (fun W (hW:Below w.heap.size w W)=>znm A A2 c c2 root vs vs2 is hz W ((h.below hW).more hW.size) ((h2.below hW).more hW.size));have g:=hid hck;obtain⟨N,t⟩:=ex is.length
 rw[t]at p g ⊢;clear h h2 hz hck t;obtain⟨u,f⟩:=ex w.heap.size
 have HGB:=hid f;go_enter func18,ntmps18;go_upto_region 1 with fail;obtain⟨o,i⟩:=ex ((w.alloc (.cells #[.slice A N c,.int .i64 root] 24)).alloc (.cells #[.slice A2 N c2,.int .i64 root] 24))
 have a:Hid (Blk o u 24 #[.slice A N c,.int .i64 root]/\Blk o (u+1) 24 #[.slice A2 N c2,.int .i64 root]/\Below w.heap.size w o):=hid (by
  rw[<-i,<-f];refine⟨(Blk.new _ _ _).alloc _,?_,((Below.refl _ _).alloc (Nat.le_refl _) _).alloc (by simp) _⟩;have:=Blk.new (w.alloc (.cells #[.slice A N c,.int .i64 root] 24)) 24 #[.slice A2 N c2,.int .i64 root];rw[World.size_alloc]at this;exact this)
 (try rw[i]);(try rw[f]);clear i f;obtain⟨q,r⟩:=cells2 a.out.1;obtain⟨v,s⟩:=cells2 a.out.2.1;by_cases h0:no=0
 ·have n:=hid (g.out h0);clear g;subst h0;have k:((0:Int)==0)=true:=rfl;go_wp2_with fail;refine(p.out _ a.out.2.2).mono ?_;rintro _ l ⟨rfl,b⟩;have d:Hid (Below w.heap.size w l):=hid (a.out.2.2.trans (b.mono a.out.2.2.size));have x:=a.out.1.below b a.out.1.lt;obtain⟨B,y⟩:=cells2 x;clear b x q r v s;go_wp2_with fail;refine(n.out _ d.out).mono ?_;rintro _ z ⟨rfl,j⟩;have m:Hid (Below w.heap.size w z):=hid (d.out.trans (j.mono d.out.size));clear j B y;go_wp2;go_ret;exact⟨rfl,m.out⟩
 ·have k:(no==0)=false:=by simpa using h0
  have h0c:(no != 0)=true:=by rw[bne,k];rfl
  go_wp2_with fail;refine(p.out _ a.out.2.2).mono ?_;rintro _ l ⟨rfl,b⟩;have d:Hid (Below w.heap.size w l):=hid (a.out.2.2.trans (b.mono a.out.2.2.size));clear b q r v s;go_wp2;go_ret;exact⟨rfl,d.out⟩
theorem zyo (A:Option Addr) (c:Nat) (root:Int) (vs:List NV) (is:List Gr.Ni) (hs:∀x∈is,x.text.length<=268435455/\x.keys.length<=1073741823/\x.items.length<=1073741823) (hl:is.length<=1073741823) (w:World) (hUT:UT w) (h:IAt w w.heap.size A vs is):
 ChkOk w (.agg #[.slice A is.length c,.int .i64 root]) (checkI sclX is root):=fun W d=>
 ze4 UT UT.stays sclX A c root vs is (fun x a=>by
  obtain⟨y,b,rfl⟩:=List.mem_map.1 a;have:=hs y b;simp only[Gr.Ni.nd,List.length_map];omega) (fun x a _ _ _ _ _ _=>by
  obtain⟨y,b,rfl⟩:=List.mem_map.1 a;exact zqk _ _ (hs y b).1) hl W (UT.stays _ _ hUT d) ((h.below d).more d.size)
theorem inil (w:World):IAt w w.heap.size none [] []:=by
 obtain⟨A,c,b,a⟩:=(OwnRow.nil (L:=nodeL) (w:=w) (base:=0) (E:=35)).form;injection b with e1 e2 e3
 rw[<-e1]at a;exact⟨a,rfl,fun j h=>absurd h (Nat.not_lt_zero _),fun j h=>absurd h (Nat.not_lt_zero _)⟩
theorem zyp {is:List Gr.Ni} (h1:is.length<=maxLen) (h2:∀y∈is,y.text.length<=maxLen/\y.keys.length<=maxLen/\y.items.length<=maxLen):Sz is:=by
 unfold maxLen at h1 h2;exact⟨h1,h2⟩
theorem ck_g {ns:List Gr.Nd} {root:Nat} (hr:Gr.Refs ns) (h0:root<ns.length) (hl:ns.length<=1000) (hks:∀n∈ns,n.keys.length<=1000/\n.items.length<=1000/\n.text.length<=1000) (A:Option Addr) (c:Nat) (vs:List NV) (W:World) (hT:UT W) (hG:GAt W W.heap.size A vs ns):
 ChkOk W (.agg #[.slice A ns.length c,.int .i64 (root:Nat)]) (checkG sclX ns root):=fun d a=>
 zq2 UT UT.stays sclX A c root vs ns (fun x b=>by have:=hks x b;omega) (fun x b _ _ _ _ _ _=>zqk _ _ (by have:=hks x b;omega)) (by omega) hr h0 d (UT.stays _ _ hT a) ((hG.below a).more a.size)
theorem zx7 {ns:List Gr.Nd} {A:Option Addr} {vs:List NV} {W:World} {B:Nat} (h:IAt W B A vs (ns.map Gr.Nd.ni)):GAt W B A vs ns:=by
 have:=h.toG (fun x b y a=>by
  obtain⟨z,hz,rfl⟩:=List.mem_map.1 b;have a:y∈z.keys.map Int.ofNat++z.items.map Int.ofNat:=a;rw[<-List.map_append]at a;obtain⟨u,_,rfl⟩:=List.mem_map.1 a;exact Int.natCast_nonneg u)
 rwa[Gr.zix]at this
theorem zyq {ns:List Gr.Nd} (hl:ns.length<=1000) (hks:∀n∈ns,n.keys.length<=1000/\n.items.length<=1000/\n.text.length<=1000):Sz (ns.map Gr.Nd.ni):=
 ⟨by rw[List.length_map];omega,fun x a=>by
  obtain⟨y,b,rfl⟩:=List.mem_map.1 a;have:=hks y b;simp only[Gr.Nd.ni,List.length_map];omega⟩
theorem zur:Sz []:=⟨by simp,fun x a=>by cases a⟩
namespace Gr
def wtN (ns:List Nd) (i:Nat):Nat:=(ns[i]?.map (fun x=>x.text.length+30)).getD 0
def plen (ns:List Nd) (f:Nat) (L:List Nat):Nat:=(L.map (fun i=>(printF ns f i).length)).sum
def wtS (ns:List Nd) (L:List Nat):Nat:=(L.map (wtN ns)).sum
def kids (ns:List Nd) (L:List Nat):List Nat:=L.flatMap (succ ns)
theorem zlc {l m:List Nat} (h:l.Perm m):l.sum=m.sum:=by
 grind
theorem zf7 (n:Nat) (L:List Nat) (hd:L.Nodup) (hL:∀x∈L,x<n):∃R,(L++R).Perm (List.range n):=by
 refine⟨(List.range n).filter (fun x=>decide (x∉L)),?_⟩;refine(zff (List.range n) _ List.nodup_range (fun x hx=>?_) ?_).symm
 ·grind
 ·rw[List.length_append,<-List.countP_eq_length_filter,<-zdp n L hd hL];rw[List.length_eq_countP_add_countP (l:=List.range n) (p:=fun i=>decide (i∈L))];apply Nat.le_of_eq
  congr 1
  exact List.countP_congr (fun x _=>by simp)
theorem zx1 (ns:List Nd) (L:List Nat) (hd:L.Nodup) (hL:∀x∈L,x<ns.length):wtS ns L<=wtS ns (List.range ns.length):=by
 obtain⟨R,a⟩:=zf7 ns.length L hd hL;unfold wtS;rw[<-zlc (a.map (wtN ns)),List.map_append,List.sum_append];omega
theorem zq8 (ns:List Nd):kids ns (List.range ns.length)=refs ns:=by
 unfold kids refs;rw[List.flatMap_def,List.flatMap_def]
 congr 1
 apply List.ext_getElem
 ·simp
 ·intro i a h2;simp only[List.length_map,List.length_range]at a;simp[zc7 a]
theorem zna (ns:List Nd) (L:List Nat) (hd:L.Nodup) (hL:∀x∈L,x<ns.length) (y:Nat):(kids ns L).count y<=(refs ns).count y:=by
 obtain⟨R,a⟩:=zf7 ns.length L hd hL;rw[<-zq8];have:=(a.flatMap_right (succ ns)).count_eq y;unfold kids;rw[<-this,List.flatMap_append,List.count_append];omega
theorem dec_len (n:Nat) (h:n<=999999999):(Lib.decDigits n).length<=9:=by
 have:=zow 9 n (by omega) (by omega);have a:=congrArg List.length this;rw[List.length_append,List.length_replicate,za3]at a;omega
section
variable {ns:List Nd}
theorem zg8 (l:List Str):l.flatten.length=(l.map List.length).sum:=by
 grind
theorem zq9 (f:Nat) (x:Nd) (hk:x.kind=10->x.keys.length=x.items.length):(entS ns f x).flatten.length<=plen ns f (x.keys++x.items):=by
 have e:(entS ns f x).flatten.length=(ents ns f x).flatten.length:=by
  rw[zg8,zg8];unfold entS;split
  ·exact zlc ((za5 _).map _)
  ·rfl
 rw[e,zg8];unfold ents plen;rw[List.map_map,List.map_append,List.sum_append];have c:∀l:List Nat,(List.range l.length).map (fun k=>(printF ns f (l.getD k 0)).length)=l.map (fun i=>(printF ns f i).length):=by
  intro l;apply List.ext_getElem
  ·simp
  ·grind
 have b:∀(l:List Nat) (p q:Nat->Nat),(l.map (fun k=>p k+q k)).sum=(l.map p).sum+(l.map q).sum:=by
  intro l p q
  induction l with
  |nil=>rfl
  |cons a l ih=>simp only[List.map_cons,List.sum_cons,ih];omega
 by_cases h10:x.kind=10
 ·have d:=hk h10;have:(List.length ∘ fun k=>(if x.kind=10 then printF ns f (x.keys.getD k 0)else[])++printF ns f (x.items.getD k 0))=fun k=>(printF ns f (x.keys.getD k 0)).length+(printF ns f (x.items.getD k 0)).length:=by
   funext k;simp[h10]
  rw[this,b,c,<-d,c];exact Nat.le_refl _
 ·have:(List.length ∘ fun k=>(if x.kind=10 then printF ns f (x.keys.getD k 0)else[])++printF ns f (x.items.getD k 0))=fun k=>(printF ns f (x.items.getD k 0)).length:=by
   funext k;simp[h10]
  rw[this,c];omega
theorem znb (hok:NodesOk ns) (hb:∀x∈ns,x.text.length<=999999999/\x.items.length<=999999999) (f i:Nat) (hi:i<ns.length):(printF ns (f+1) i).length<=wtN ns i+plen ns f (succ ns i):=by
 have a:ns[i]∈ns:=List.getElem_mem hi;have h1:=zq9 (ns:=ns) f ns[i] (hok _ a).2.2;have d1:=dec_len _ (hb _ a).1;have d2:=dec_len _ (hb _ a).2;rw[zam (List.getElem?_eq_getElem hi),zc7 hi];unfold wtN;rw[List.getElem?_eq_getElem hi];simp only[Option.map_some,Option.getD_some,List.length_cons,List.length_append];have:(if ns[i].ord=true then[33]else([]:Str)).length<=1:=by split<;>simp
 omega
theorem zra (f:Nat) (L:List Nat):plen ns f (kids ns L)=(L.map (fun i=>plen ns f (succ ns i))).sum:=by
 induction L with
 |nil=>rfl
 |cons a L ih=>
  unfold kids plen at ih ⊢;simp only[List.flatMap_cons,List.map_append,List.sum_append,List.map_cons,List.sum_cons,ih]
theorem znc (hok:NodesOk ns) (hb:∀x∈ns,x.text.length<=999999999/\x.items.length<=999999999) (f:Nat):∀L:List Nat,(∀x∈L,x<ns.length)->plen ns (f+1) L<=wtS ns L+plen ns f (kids ns L):=by
 intro L b;rw[zra];unfold plen wtS
 induction L with
 |nil=>simp
 |cons a L ih=>
  have d:=ih (fun x c=>b x (.tail _ c));have e:=znb hok hb f a (b a (.head _));unfold plen at e d;simp only[List.map_cons,List.sum_cons];omega
theorem zwn (hr:Refs ns) (hok:NodesOk ns) (hb:∀x∈ns,x.text.length<=999999999/\x.items.length<=999999999) {K:Nat->Prop} (hK:∀u,K u->∀v∈succ ns u,K v) (hone:∀x,K x->(refs ns).count x<=1):∀(f:Nat) (L:List Nat),L.Nodup->(∀x∈L,x<ns.length/\K x)->plen ns f L<=f*wtS ns (List.range ns.length):=by
 intro f
 induction f with
 |zero=>
  intro L _ _;unfold plen;have:(L.map (fun i=>(printF ns 0 i).length)).sum=0:=by
   induction L with
   |nil=>rfl
   |cons a L ih=>
    rw[List.map_cons,List.sum_cons];have l:(printF ns 0 a).length=0:=rfl;rw[l,Nat.zero_add];apply ih
    ·grind
    ·grind
  rw[this];omega
 |succ f ih=>
  intro L h j;have b:∀x∈L,x<ns.length:=fun x g=>(j x g).1
  have h1:=znc hok hb f L b;have h2:=zx1 ns L h b;have d:∀x∈kids ns L,x<ns.length/\K x:=by
   intro x g;obtain⟨u,k,c⟩:=List.mem_flatMap.1 g;exact⟨hr.succ u x c,hK u (j u k).2 x c⟩
  have e:(kids ns L).Nodup:=by
   rw[List.nodup_iff_count];intro y;by_cases hy:y∈kids ns L
   ·exact Nat.le_trans (zna ns L h b y) (hone y (d y hy).2)
   ·grind
  have h3:=ih (kids ns L) e d;rw[Nat.succ_mul];omega
theorem zrb (hr:Refs ns) (hok:NodesOk ns) (hb:∀x∈ns,x.text.length<=999999999/\x.items.length<=999999999) {K:Nat->Prop} (hK:∀u,K u->∀v∈succ ns u,K v) (hone:∀x,K x->(refs ns).count x<=1) (f i:Nat) (hi:i<ns.length) (hKi:K i):(printF ns f i).length<=f*wtS ns (List.range ns.length):=by
 have:=zwn hr hok hb hK hone f [i] (by simp) (fun x a=>by rw[List.mem_singleton.1 a];exact⟨hi,hKi⟩);unfold plen at this;simpa using this
end
end Gr
namespace Gr
theorem zwq {l:List Str} {k:Nat} (h:k<l.length) (hm:l[k]∈l.take k):dupS l=true:=by
 rw[<-Bool.not_eq_false];intro f;have d:=(zd0 l).1 f;obtain⟨j,c,a⟩:=List.mem_iff_getElem.1 hm;rw[List.length_take]at c;rw[List.getElem_take]at a;have h2:j<k:=by omega
 exact absurd a (fun e=>absurd ((List.getElem_inj d).1 e) (by omega))
theorem zj5 {l:List Str} {k:Nat} (h:k<l.length) (hn:(l.take k).Nodup) (hm:l[k]∉l.take k):(l.take (k+1)).Nodup:=by
 rw[List.take_succ_eq_append_getElem h,List.nodup_append];refine⟨hn,by simp,fun a d b c=>?_⟩;rw[List.mem_singleton]at c;subst c;exact fun e=>hm (e▸d)
theorem zx2 {l:List Str} {k:Nat} (h:l.length<=k) (hn:(l.take k).Nodup):dupS l=false:=by
 rw[List.take_of_length_le h]at hn;exact(zd0 l).2 hn
theorem zne {ns:List Nd} {f i:Nat} (h:i<ns.length) (hd:dupS (ns[i].keys.map (printF ns f))=true):rtwice ns f=true:=by
 unfold rtwice;rw[List.any_eq_true];exact⟨_,List.getElem_mem h,hd⟩
theorem zrj {ns:List Nd} {f i:Nat} (h:ns.length<=i) (ha:∀j,j<i->∀(hj:j<ns.length),dupS (ns[j].keys.map (printF ns f))=false):rtwice ns f=false:=by
 unfold rtwice;rw[List.any_eq_false];intro x a;obtain⟨j,hj,rfl⟩:=List.mem_iff_getElem.1 a;rw[ha j (by omega) hj];decide
def mt (ns:List Nd) (v i:Nat):Bool:=mkd (marks ns v) i && mkd (marks ns i) v
def lwt (ns:List Nd) (v k:Nat):Nat:=(List.range k).countP (mt ns v)
theorem ztu (ns:List Nd) (v k:Nat):lwt ns v (k+1)=lwt ns v k+(if mt ns v k=true then 1 else 0):=by
 unfold lwt;rw[List.range_succ,List.countP_append,List.countP_singleton]
theorem zx3 (ns:List Nd) (v k:Nat):lwt ns v k<=k:=by
 unfold lwt;exact Nat.le_trans List.countP_le_length (by simp)
def seen (ns:List Nd) (v k:Nat) (P:List Nat) (x:Nat):Prop:=(∃u,u<k/\mt ns v u=true/\x∈succ ns u/\mkd (marks ns x) v=false)\/(x∈P/\mkd (marks ns x) v=false)
structure LBest (ns:List Nd) (F:Nat->Nat) (v k:Nat) (P:List Nat) (b:Nat):Prop where
 ge:∀x,seen ns v k P x->F x<=b
 at_:b=0\/∃x,seen ns v k P x/\b=F x
section
variable {ns:List Nd} {F:Nat->Nat} {v k b:Nat} {P:List Nat}
theorem LBest.start:LBest ns F v 0 [] 0:=⟨by
 rintro x (⟨u,hu,_⟩|⟨h,_⟩)
 ·omega
 ·simp at h,.inl rfl⟩
theorem LBest.skip (h:LBest ns F v k [] b) (hm:mt ns v k=false):LBest ns F v (k+1) [] b:=by
 have e:∀x,seen ns v (k+1) [] x↔seen ns v k [] x:=by
  intro x;unfold seen;constructor
  ·grind
  ·grind
 exact⟨fun x a=>h.ge x ((e x).1 a),h.at_.imp id (fun⟨x,h1,h2⟩=>⟨x,(e x).2 h1,h2⟩)⟩
theorem LBest.next (h:LBest ns F v k P b) (hm:mt ns v k=true) (hP:P=succ ns k):LBest ns F v (k+1) [] b:=by
 have e:∀x,seen ns v (k+1) [] x↔seen ns v k P x:=by
  intro x;unfold seen;constructor
  ·grind
  ·grind
 exact⟨fun x a=>h.ge x ((e x).1 a),h.at_.imp id (fun⟨x,h1,h2⟩=>⟨x,(e x).2 h1,h2⟩)⟩
theorem LBest.old (h:LBest ns F v k P b) {y:Nat} (hy:mkd (marks ns y) v=true):LBest ns F v k (P++[y]) b:=by
 have e:∀x,seen ns v k (P++[y]) x↔seen ns v k P x:=by
  intro x;unfold seen;constructor
  ·grind
  ·grind
 exact⟨fun x a=>h.ge x ((e x).1 a),h.at_.imp id (fun⟨x,h1,h2⟩=>⟨x,(e x).2 h1,h2⟩)⟩
theorem LBest.new (h:LBest ns F v k P b) {y:Nat} (hy:mkd (marks ns y) v=false):LBest ns F v k (P++[y]) (max b (F y)):=by
 have e:∀x,seen ns v k (P++[y]) x↔seen ns v k P x\/x=y:=by
  intro x;unfold seen;constructor
  ·grind
  ·grind
 refine⟨fun x a=>?_,?_⟩
 ·rcases(e x).1 a with h1|rfl
  ·exact Nat.le_trans (h.ge x h1) (Nat.le_max_left _ _)
  ·exact Nat.le_max_right _ _
 ·rcases Nat.le_total b (F y)with h1|h1
  ·grind
  ·rw[Nat.max_eq_left h1];exact h.at_.imp id (fun⟨x,h2,h3⟩=>⟨x,(e x).2 (.inl h2),h3⟩)
theorem zlg (hr:Refs ns) (hv:v<ns.length) {i:Nat} (hi:i<ns.length):mt ns v i=true↔Reach (succ ns) v i/\Reach (succ ns) i v:=by
 unfold mt;rw[Bool.and_eq_true,zbb hr hv,zbb hr hi]
theorem zrk (hr:Refs ns) {x:Nat} (hx:x<ns.length):mkd (marks ns x) v=false↔¬Reach (succ ns) x v:=by
 rw[<-zbb hr hx,Bool.not_eq_true]
open Classical in
theorem zx4 (hr:Refs ns) (hv:v<ns.length):lwt ns v ns.length=wt (succ ns) ns.length v:=by
 unfold lwt wt;apply List.countP_congr;intro i a;rw[zlg hr hv (List.mem_range.1 a),decide_eq_true_eq]
theorem LBest.last (hr:Refs ns) (hv:v<ns.length) (hF:LongR (succ ns) ns.length F) (h:LBest ns F v ns.length [] b):lwt ns v ns.length+b=F v:=by
 rw[zx4 hr hv];have c:∀x,seen ns v ns.length [] x->wt (succ ns) ns.length v+F x<=F v:=by
  rintro x (⟨u,hu,h1,h2,h3⟩|⟨h1,_⟩)
  ·have a:=(zlg hr hv hu).1 h1;exact hF.up v u hv hu a.1 a.2 x h2 ((zrk hr (hr.succ u x h2)).1 h3)
  ·simp at h1
 have hle:wt (succ ns) ns.length v+b<=F v:=by
  rcases h.at_ with h1|⟨x,h1,rfl⟩
  ·subst h1;rcases hF.att v hv with h2|⟨u,_,_,_,x,_,_,h2⟩
   ·omega
   ·omega
  ·exact c x h1
 rcases hF.att v hv with h2|⟨u,hu,h3,a,x,hx,hn,h2⟩
 ·omega
 ·have:=h.ge x (.inl ⟨u,hu,(zlg hr hv hu).2 ⟨h3,a⟩,hx,(zrk hr (hr.succ u x hx)).2 hn⟩);omega
theorem LongR.lt (hF:LongR (succ ns) ns.length F) (hr:Refs ns) (hv:v<ns.length) {u x:Nat} (hu:u<ns.length) (hm:mt ns v u=true) (hx:x∈succ ns u) (hn:mkd (marks ns x) v=false):F x<F v:=by
 have a:=(zlg hr hv hu).1 hm;have:=hF.up v u hv hu a.1 a.2 x hx ((zrk hr (hr.succ u x hx)).1 hn);have:=zqr (succ ns) ns.length v hv;omega
theorem LongR.pos (hF:LongR (succ ns) ns.length F) (hv:v<ns.length):0<F v:=by
 have:=zqr (succ ns) ns.length v hv;rcases hF.att v hv with h2|⟨_,_,_,_,_,_,_,h2⟩<;>omega
end
def rtree (ns:List Nd):Bool:=(List.range ns.length).all (fun u=>((ns[u]?.map Nd.items).getD []).all (fun x=>!(mkd (marks ns x) u)))
theorem zrl {ns:List Nd} (hr:Refs ns):rtree ns=true↔∀(u:Nat) (hu:u<ns.length),∀x∈ns[u].items,¬Reach (succ ns) x u:=by
 unfold rtree;rw[List.all_eq_true];constructor
 ·intro h u hu x a;have:=h u (List.mem_range.2 hu);rw[List.getElem?_eq_getElem hu,List.all_eq_true]at this;have:=this x a;rw[Bool.not_eq_true']at this;exact(zrk hr (hr _ (List.getElem_mem hu) x (List.mem_append_right _ a))).1 this
 ·intro h u hu;have hu:=List.mem_range.1 hu;rw[List.getElem?_eq_getElem hu,List.all_eq_true];intro x a;rw[Bool.not_eq_true'];exact(zrk hr (hr _ (List.getElem_mem hu) x (List.mem_append_right _ a))).2 (h u hu x a)
structure WellF (ns:List Nd) (r:Nat):Prop where
 root:r<ns.length
 refs:Refs ns
 ok:NodesOk ns
 all:∀v,v<ns.length->Reach (succ ns) r v
 one:∀x,x<ns.length->mkd (inKeys ns) x=true->(counts ns r).getD x 0=1
theorem znf {sclr:Int->Str->Bool} (hs:∀k t,sclr k t=true->0<=k/\k<=8) {is:List Ni} {root:Int} (h:rwell sclr is root=true):∃r:Nat,root=(r:Int)/\WellF (is.map Ni.nd) r/\is.all (rng is.length)=true:=by
 unfold rwell at h;split at h
 ·cases h
 ·rename_i h2;split at h
  ·cases h
  ·rename_i h3;rw[Bool.not_eq_false]at h3;have c:inR is.length root=true:=by
    grind
   have a:is.all (rng is.length)=true:=List.all_eq_true.2 (fun x f=>zfg (List.all_eq_true.1 h3 x f));obtain⟨_,e⟩:=zbu a;have d:(is.map Ni.nd).length=is.length:=by simp
   unfold inR at c;rw[Bool.and_eq_true,decide_eq_true_eq,decide_eq_true_eq]at c;have j:root.toNat<(is.map Ni.nd).length:=by rw[d];omega
   have g:∀i,i<(is.map Ni.nd).length->rnode (is.map Ni.nd) root.toNat i=true:=fun i m=>List.all_eq_true.1 h i (List.mem_range.2 (by rw[d]at m;exact m))
   refine⟨root.toNat,by omega,⟨j,e,?_,?_,?_⟩,a⟩
   ·intro x f;obtain⟨y,n,rfl⟩:=List.mem_map.1 f;have:=List.all_eq_true.1 h3 y n;rw[zg7 sclr is.length y (List.all_eq_true.1 a y n)]at this;exact zir hs this
   ·intro v o;have:=g v o;unfold rnode at this;rw[Bool.and_eq_true]at this;exact(zbb e j v).1 this.1
   ·intro x f l;have:=g x f;unfold rnode at this;rw[Bool.and_eq_true,l,Bool.true_and,Bool.not_eq_true']at this;simpa using this.2
section
variable {ns:List Nd} {r:Nat}
theorem WellF.tall (h:WellF ns r):∀k∈allKeys ns,k<ns.length/\Tall' ns ns.length k:=fun k c=>by
 obtain⟨a,b⟩:=ze3 h.refs h.root h.all h.one k c;exact⟨a,zqt ns _ _ b⟩
theorem WellF.keep (h:WellF ns r):∀u,mkd (inKeys ns) u=true->∀v∈succ ns u,mkd (inKeys ns) v=true:=by
 intro u c v e;obtain⟨k,a,d⟩:=(zat h.refs u).1 c;exact(zat h.refs v).2 ⟨k,a,d.trans (.one e)⟩
theorem WellF.key (h:WellF ns r):∀k∈allKeys ns,mkd (inKeys ns) k=true:=fun k a=>(zat h.refs k).2 ⟨k,a,.refl _⟩
theorem WellF.count (h:WellF ns r):∀x,mkd (inKeys ns) x=true->(Gr.refs ns).count x<=1:=by
 intro x a;by_cases hxl:x<ns.length
 ·have:=h.one x hxl a;rw[zdv hxl]at this;split at this<;>omega
 ·have:¬x∈Gr.refs ns:=by
   intro d;obtain⟨n,c,e⟩:=List.mem_flatMap.1 d;exact hxl (h.refs n c x e)
  rw[List.count_eq_zero.2 this];omega
theorem zx5 {ns:List Nd} (b:Nat) (hb:∀x∈ns,x.text.length+30<=b):∀k,k<=ns.length->wtS ns (List.range k)<=k*b:=by
 intro k
 induction k with
 |zero=>intro _;simp[wtS]
 |succ k ih=>
  intro hk;have h1:=ih (by omega);have h2:=hb _ (List.getElem_mem (show k<ns.length by omega));have e:wtS ns (List.range (k+1))=wtS ns (List.range k)+wtN ns k:=by unfold wtS;rw[List.range_succ];simp
  have a:wtN ns k=ns[k].text.length+30:=by unfold wtN;rw[List.getElem?_eq_getElem (by omega)];rfl
  rw[e,a,Nat.succ_mul];omega
theorem WellF.plen (h:WellF ns r) (hn:ns.length<=1000) (hb:∀x∈ns,x.text.length<=1000/\x.items.length<=1000) (f i:Nat) (hf:f<=ns.length) (hi:i<ns.length) (hk:mkd (inKeys ns) i=true):(printF ns f i).length<=2000000000:=by
 have h1:=zrb h.refs h.ok (fun x a=>⟨by have:=hb x a;omega,by have:=hb x a;omega⟩) h.keep h.count f i hi hk;have c:=zx5 1030 (fun x a=>by have:=hb x a;omega) ns.length (Nat.le_refl _);have h3:f*wtS ns (List.range ns.length)<=1000*(1000*1030):=Nat.mul_le_mul (by omega) (Nat.le_trans c (Nat.mul_le_mul hn (Nat.le_refl _)));omega
theorem WellF.depth (h:WellF ns r):∃F:Nat->Nat,LongR (succ ns) ns.length F/\(Gr.depth ns r).1=(F r:Int)-1/\(Gr.depth ns r).2=rtree ns:=by
 obtain⟨F,c,a,d⟩:=zqs h.refs h.root h.all;refine⟨F,c,a,?_⟩;rw[Bool.eq_iff_iff,d,zrl h.refs,zm3 h.refs h.root h.all h.one]
end
def few (is:List Ni):Bool:=
 decide (is.length<=40) && (is.all (fun n=>decide (n.text.length<=100/\n.keys.length<=80/\n.items.length<=80)) && (decide ((is.map (fun n=>n.keys.length+n.items.length)).sum<=240) && decide ((is.map (fun n=>n.text.length)).sum<=300)))
theorem zwr {is:List Ni} (h:few is=true):is.length<=40:=by
 unfold few at h;rw[Bool.and_eq_true,decide_eq_true_eq]at h;exact h.1
theorem zws {is:List Ni} (h:few is=true):∀n∈is,n.text.length<=100/\n.keys.length<=80/\n.items.length<=80:=by
 unfold few at h;rw[Bool.and_eq_true,Bool.and_eq_true]at h;intro n a;exact of_decide_eq_true (List.all_eq_true.1 h.2.1 n a)
def fsum (is:List Ni) (k:Nat):Nat:=((is.take k).map (fun n=>n.keys.length+n.items.length)).sum
def fbyt (is:List Ni) (k:Nat):Nat:=((is.take k).map (fun n=>n.text.length)).sum
theorem zrm {is:List Ni} {k:Nat} (h:k<is.length):fsum is (k+1)=fsum is k+(is[k].keys.length+is[k].items.length):=by
 unfold fsum;rw[List.take_succ_eq_append_getElem h,List.map_append,List.sum_append];rfl
theorem zrn {is:List Ni} {k:Nat} (h:k<is.length):fbyt is (k+1)=fbyt is k+is[k].text.length:=by
 unfold fbyt;rw[List.take_succ_eq_append_getElem h,List.map_append,List.sum_append];rfl
theorem zwt {is:List Ni} (h:¬is.length<=40):few is=false:=by
 unfold few;rw[decide_eq_false h];rfl
theorem zwu {is:List Ni} {k:Nat} (h:k<is.length) (hn:¬(is[k].text.length<=100/\is[k].keys.length<=80/\is[k].items.length<=80)):few is=false:=by
 unfold few;have:is.all (fun n=>decide (n.text.length<=100/\n.keys.length<=80/\n.items.length<=80))=false:=by
  grind
 rw[this];simp
theorem zwv {is:List Ni} {k:Nat} (h:is.length<=k) (h1:is.length<=40) (h2:∀j,j<k->∀(hj:j<is.length),is[j].text.length<=100/\is[j].keys.length<=80/\is[j].items.length<=80):few is=(decide (fsum is k<=240) && decide (fbyt is k<=300)):=by
 unfold few fsum fbyt;rw[List.take_of_length_le h,decide_eq_true h1,Bool.true_and];have:is.all (fun n=>decide (n.text.length<=100/\n.keys.length<=80/\n.items.length<=80))=true:=by
  rw[List.all_eq_true];intro x a;obtain⟨j,hj,rfl⟩:=List.mem_iff_getElem.1 a;exact decide_eq_true (h2 j (by omega) hj)
 rw[this,Bool.true_and]
end Gr
open Go.RowKit Go.WideShapes Go.ChangeShapes Go.Deep
theorem zj7 {α:Type} {Q:Nat->α->Prop} {n:Nat} (h:∀i,i<n->∃x,Q i x):∃l:List α,l.length=n/\∀i (hi:i<l.length),Q i l[i]:=by
 induction n with
 |zero=>exact⟨[],rfl,fun i h=>by simp at h⟩
 |succ n ih=>
  obtain⟨l,a,hl⟩:=ih (fun i hi=>h i (by omega));obtain⟨x,hx⟩:=h n (by omega);refine⟨l++[x],by simp[a],fun i hi=>?_⟩;by_cases hil:i<l.length
  ·grind
  ·grind
theorem row_of {α:Type} (L:Lay α) {w:World} {a:Addr} {l:List α} (h:∀i (hi:i<l.length) j u,(L.enc l[i])[j]? =some u->w.cell? (a.add (i*L.sz+j))=some u):RowAt L w w.heap.size (some a) l:=by
 have c:∀j u,(L.all l)[j]? =some u->w.cell? (a.add j)=some u:=by
  intro j u e;have q:=L.pos;have g:j<l.length*L.sz:=by have:=(List.getElem?_eq_some_iff.1 e).1;rwa[L.all_len]at this
  have m:j /L.sz<l.length:=Nat.div_lt_of_lt_mul (by rw[Nat.mul_comm];exact g);have s:j%L.sz<L.sz:=Nat.mod_lt _ q;have o:=L.len l[j /L.sz];obtain⟨f,b⟩:∃f,(L.enc l[j /L.sz])[j%L.sz]? =some f:=⟨_,List.getElem?_eq_getElem (l:=L.enc l[j /L.sz]) (i:=j%L.sz) (by rw[o];exact s)⟩
  have k:=L.all_at l (j /L.sz) l[j /L.sz] (List.getElem?_eq_getElem m) (j%L.sz) f b;have n:j /L.sz*L.sz+j%L.sz=j:=by rw[Nat.mul_comm];exact Nat.div_add_mod j L.sz
  rw[n]at k;rw[k]at e;injection e with e
  subst e;have:=h _ m _ _ b;rwa[n]at this
 refine⟨L.all_len l,fun t=>⟨a,rfl,?_,c⟩⟩;have y:0<(L.all l).length:=by rw[L.all_len];exact Nat.mul_pos t L.pos
 have:=World.block_lt_of_cell? w _ (c 0 _ (List.getElem?_eq_getElem y));rwa[zaz]at this
section
variable {H:Type} {enc:TypeId×Value->H} {W:World} {r:Reach} {b0 base fuel:Nat} {sp:Nat->Bool} {hd:Bool} {v:Value} {d:DataW H} {p:List MemPlace} {cs:List Value} {x:DataW H×List MemPlace}
theorem zi3 (h:DataW.trod enc prog W base sp hd fuel 33 cs=some x):
 ∃(A:Option Addr) (c:Nat) (l:List Int),cs=[.slice A l.length c]/\RowAt intI W W.heap.size A l/\l.length<=maxLen:=by
 rcases open_slice1 underlying33 (by kernel_rfl) h with⟨q,w⟩|⟨a,f,s,m,n,V,D,Pl,rfl,hb,hl,hm,o,rfl,w⟩
 ·exact⟨none,0,[],q,RowAt.nil,by simp⟩
 ·have hml:f<=m:=by rw[o];split<;>omega
  obtain⟨l,k,b⟩:=zj7 (Q:=fun i (x:Int)=>W.cell? (a.add i)=some (.int .i64 x)) (n:=f) (fun i y=>by
   obtain⟨t,z⟩:=w i (by omega);obtain⟨n,e,_⟩:=DataW.trod_int underlying3 z;injection e with e
   exact⟨n,by rw[t,e]⟩)
  subst k;refine⟨some a,s,l,rfl,row_of intI (fun i y j u g=>?_),by omega⟩;have B:j=0:=by
   have:=(List.getElem?_eq_some_iff.1 g).1;have t:(intI.enc l[i]).length=1:=rfl;omega
  subst B;have g:some (Value.int .i64 l[i])=some u:=g;rw[<-g,<-b i y];show W.cell? (a.add (i*1+0))=_;rw[Nat.mul_one,Nat.add_zero]
theorem znr (h:DataW.trod enc prog W base sp hd fuel 22 cs=some x):
 ∃(A:Option Addr) (c:Nat) (vs:List NV) (is:List Gr.Ni),cs=[.slice A is.length c]/\IAt W W.heap.size A vs is/\is.length<=maxLen/\∀y∈is,y.text.length<=maxLen/\y.keys.length<=maxLen/\y.items.length<=maxLen:=by
 have V:prog.cellsOf 35=5:=by kernel_rfl
 have R:prog.cellsOf 3=1:=by kernel_rfl
 have G:prog.cellsOf 9=1:=by kernel_rfl
 have X:prog.cellsOf 4=1:=by kernel_rfl
 have I:prog.cellsOf 33=1:=by kernel_rfl
 obtain⟨L,w⟩:∃L:Array Field,prog.underlying 35=some (.struct L)/\L.map (fun f=>(f.type,f.offset))=#[(3,0),(9,1),(4,2),(33,3),(33,4)]:=⟨_,underlying35,by kernel_rfl⟩
 obtain⟨w,T⟩:=w;have q:∀(i:Nat) (t:TypeId) (o:Nat),(#[(3,0),(9,1),(4,2),(33,3),(33,4)]:Array (TypeId×Nat))[i]? =some (t,o)->∃f:Field,L[i]? =some f/\f.type=t/\f.offset=o:=by
  grind
 rcases open_slice underlying22 h with⟨U,hx⟩|⟨a,F,Z,m,n,D,Pl,rfl,hb,hl,hm,O,rfl,hx⟩
 ·exact⟨none,0,[],[],U,⟨RowAt.nil,rfl,fun j h=>by simp at h,fun j h=>by simp at h⟩,by simp,by simp⟩
 ·have hml:F<=m:=by rw[O];split<;>omega
  obtain⟨l,N,e⟩:=zj7 (n:=F) (Q:=fun i (x:NV×Gr.Ni)=>(∀j u,(nodeL.enc x.1)[j]? =some u->W.cell? (a.add (i*5+j))=some u)/\(x.1.kind=x.2.kind/\x.1.text=x.2.text/\x.1.ord=x.2.ord)/\
   (RowAt intI W W.heap.size x.1.k.a x.2.keys/\x.1.k.n=x.2.keys.length/\RowAt intI W W.heap.size x.1.i.a x.2.items/\x.1.i.n=x.2.items.length)/\x.2.text.length<=maxLen/\x.2.keys.length<=maxLen/\x.2.items.length<=maxLen) (fun i K=>by
   obtain⟨S,M,P⟩:=hx i (by omega);rw[V]at M;obtain⟨_,E,J⟩:=World.cells?_some M;obtain⟨xs,n',_,_,_,hxl,C⟩:=DataW.trod_struct w P;have hsz:L.size=5:=by have:=congrArg Array.size T;simpa using this
   obtain⟨f0,g0,t0,o0⟩:=q 0 _ _ rfl;obtain⟨f1,g1,t1,o1⟩:=q 1 _ _ rfl;obtain⟨f2,g2,t2,o2⟩:=q 2 _ _ rfl;obtain⟨f3,g3,t3,o3⟩:=q 3 _ _ rfl;obtain⟨f4,g4,t4,o4⟩:=q 4 _ _ rfl;have e0:=C 0 f0 g0;have e1:=C 1 f1 g1;have e2:=C 2 f2 g2;have e3:=C 3 f3 g3;have e4:=C 4 f4 g4;rw[t0,o0,R,List.getElem?_eq_getElem (by omega)]at e0;rw[t1,o1,G,List.getElem?_eq_getElem (by omega)]at e1;rw[t2,o2,X,List.getElem?_eq_getElem (by omega)]at e2;rw[t3,o3,I,List.getElem?_eq_getElem (by omega)]at e3;rw[t4,o4,I,List.getElem?_eq_getElem (by omega)]at e4;obtain⟨k,k1,_⟩:=DataW.trod_int underlying3 e0;obtain⟨s,s1,_,s3⟩:=DataW.trod_string underlying9 e1;obtain⟨b,b1,_⟩:=DataW.trod_bool underlying4 e2;obtain⟨A3,c3,l3,r3,q3,z3⟩:=zi3 e3;obtain⟨A4,c4,l4,r4,q4,z4⟩:=zi3 e4
   match S,E with
   | [v0,v1,v2,v3,v4],_=>
    simp at k1 s1 b1 r3 r4;subst k1 s1 b1 r3 r4;have hs:s=⟨(s.data.toList).toArray⟩:=by apply ByteArray.ext;simp
    have aa:s.data.toList.length<=maxLen:=by simpa using s3
    refine⟨(⟨k,s.data.toList,b,⟨A3,l3.length,c3⟩,⟨A4,l4.length,c4⟩⟩,⟨k,s.data.toList,b,l3,l4⟩),?_,⟨rfl,rfl,rfl⟩,⟨q3,rfl,q4,rfl⟩,aa,z3,z4⟩;intro j u g;have hat':=fun j hj=>J j hj
    have hj:j<5:=by
     have:=(List.getElem?_eq_some_iff.1 g).1;exact this
    have B:=J j (by omega);rw[zdm]at B;have Y:j=0\/j=1\/j=2\/j=3\/j=4:=by omega
    rcases Y with rfl|rfl|rfl|rfl|rfl
    ·exact B.trans g
    ·have g:some (Value.string ⟨(s.data.toList).toArray⟩)=some u:=g;rw[<-hs]at g;exact B.trans g
    ·exact B.trans g
    ·exact B.trans g
    ·exact B.trans g)
  subst N;refine⟨some a,Z,l.map (·.1),l.map (·.2),by simp,⟨row_of nodeL (fun i K j u g=>?_),by simp,fun j M P=>?_,fun j M P=>?_⟩,by simp;omega,fun y hy=>?_⟩
  ·simp only[List.length_map]at K;rw[List.getElem_map]at g;exact(e i K).1 j u g
  ·grind
  ·grind
  ·obtain⟨z,hz,rfl⟩:=List.mem_map.1 hy;obtain⟨i,K,rfl⟩:=List.mem_iff_getElem.1 hz;exact(e i K).2.2.2
theorem zns (h:DataW.trod enc prog W base sp hd fuel 24 cs=some x):
 ∃(A:Option Addr) (c:Nat) (root:Int) (vs:List NV) (is:List Gr.Ni),cs=[.slice A is.length c,.int .i64 root]/\IAt W W.heap.size A vs is/\is.length<=maxLen/\∀y∈is,y.text.length<=maxLen/\y.keys.length<=maxLen/\y.items.length<=maxLen:=by
 have j:prog.cellsOf 3=1:=by kernel_rfl
 have m:prog.cellsOf 22=1:=by kernel_rfl
 have l:prog.cellsOf 24=2:=by kernel_rfl
 obtain⟨e,b⟩:∃e:Array Field,prog.underlying 24=some (.struct e)/\e.map (fun f=>(f.type,f.offset))=#[(22,0),(3,1)]:=⟨_,underlying24,by kernel_rfl⟩
 obtain⟨b,n⟩:=b;have g:∀(i:Nat) (t:TypeId) (o:Nat),(#[(22,0),(3,1)]:Array (TypeId×Nat))[i]? =some (t,o)->∃f:Field,e[i]? =some f/\f.type=t/\f.offset=o:=by
  grind
 obtain⟨xs,n',_,_,a,hxl,u⟩:=DataW.trod_struct b h;have hsz:e.size=2:=by have:=congrArg Array.size n;simpa using this
 obtain⟨E,C,G,D⟩:=g 0 _ _ rfl;obtain⟨B,w,F,z⟩:=g 1 _ _ rfl;have s:=u 0 E C;have q:=u 1 B w;rw[G,D,m,List.getElem?_eq_getElem (by omega)]at s;rw[F,z,j,List.getElem?_eq_getElem (by omega)]at q;rw[l]at a;obtain⟨A,c,vs,is,r0,q0,z0,z1⟩:=znr s;obtain⟨k,k1,_⟩:=DataW.trod_int underlying3 q
 match cs,a with
 | [v0,v1],_=>
  grind
end
section
variable {H:Type} {enc:TypeId×Value->H} {W:World} {r:Reach} {b0 base:Nat} {sp:Nat->Bool} {hd:Bool} {v:Value} {d:DataW H} {p:List MemPlace}
theorem zj8 (hv:Value.okWide prog W r b0 37 v) (h:DataW.Trod enc prog W base sp hd 37 v d p):
 ∃(A:Option Addr) (c:Nat) (l:List GArg),v=.slice A l.length c/\GsAt W W.heap.size A l/\∀x∈l,Sz x.is:=by
 obtain⟨A,n,c,rfl⟩:=okWide_slice underlying37 hv;obtain⟨fuel,I⟩:=h;have w:prog.cellsOf 24=2:=by kernel_rfl
 rcases open_slice underlying37 I with⟨f,o⟩|⟨a,len,cap,m,k,D,Pl,f,hb,hl,hm,y,o,g⟩
 ·simp[Value.cells]at f;obtain⟨rfl,rfl,rfl⟩:=f;exact⟨none,0,[],rfl,⟨RowAt.nil,fun x h=>by cases h⟩,fun x h=>by cases h⟩
 ·simp[Value.cells]at f;obtain⟨rfl,rfl,rfl⟩:=f;have hml:n<=m:=by rw[y];split<;>omega
  obtain⟨l,t,b⟩:=zj7 (n:=n) (Q:=fun i (x:GArg)=>(∀j u,(argL.enc x)[j]? =some u->W.cell? (a.add (i*2+j))=some u)/\IAt W W.heap.size x.a x.vs x.is/\Sz x.is) (fun i him=>by
   obtain⟨cs',B,G⟩:=g i (by omega);rw[w]at B;obtain⟨_,hlen,z⟩:=World.cells?_some B;obtain⟨F,E,q,J,is,e,L,C,K⟩:=zns G;refine⟨⟨F,E,q,J,is⟩,fun j u s=>?_,L,zyp C K⟩;have hj:j<2:=(List.getElem?_eq_some_iff.1 s).1;have:=z j (by omega);rw[zdm]at this;rw[this,e];exact s)
  subst t;refine⟨some a,c,l,rfl,⟨row_of argL (fun i g j u s=>(b i g).1 j u s),fun x o=>?_⟩,fun x o=>?_⟩
  ·obtain⟨i,g,rfl⟩:=List.mem_iff_getElem.1 o;exact(b i g).2.1
  ·obtain⟨i,g,rfl⟩:=List.mem_iff_getElem.1 o;exact(b i g).2.2
end
end Go.Proofs.YtoigpackhninoaaGreatDoor

import Derived.Test.YtpjmhafmeieloaaGreatDoorZ12
import Derived.Test.YtpjmhafmeieloaaGreatDoorZ21
namespace Go.Proofs.YtpjmhafmeieloaaGreatDoor
open Gr
open _root_.Go.Proofs.Tryz
open _root_.Go.Lib (hid)
set_option maxRecDepth 100000
set_option maxHeartbeats 16000000
open Go.RowKit
def zt4 (sclr:Int->Gr.Str->Bool) (l:List GArg) (w:World) (e:Ending) (w':World):Prop:=
 Below w.heap.size w w'/\(l.any (fun x=>x.chk sclr != 0)=true->e=.returned (.tuple #[gZero,.int .i64 3]))/\(l.any (fun x=>x.chk sclr != 0)=false->
  (checkG sclr (listN (l.map GArg.p)) 0≠0->e=.returned (.tuple #[gZero,.int .i64 (checkG sclr (listN (l.map GArg.p)) 0:Nat)]))/\
  (checkG sclr (listN (l.map GArg.p)) 0=0->∃A c vs,e=.returned (.tuple #[.agg #[.slice A (listN (l.map GArg.p)).length c,.int .i64 0],.int .i64 0])/\GAt w' w'.heap.size A vs (listN (l.map GArg.p))))
def ArgsOk (sclr:Int->Gr.Str->Bool) (w:World) (l:List GArg):Prop:=∀x∈l,ChkOk w x.v (x.chk sclr)
theorem zki {α:Type} (f:α->Bool) (l:List α) (k:Nat) (hk:k<l.length) (h:f l[k]=true):l.any f=true:=List.any_eq_true.2 ⟨_,List.getElem_mem hk,h⟩
theorem zt5 (T:World->Prop) (hT:Stays T) (sclr:Int->Gr.Str->Bool) (A:Option Addr) (c:Nat) (l:List GArg) (hl:l.length<=100000) (hks:∀x∈l,NH (x.is.map Gr.Ni.nd)) (hsc:∀x∈l,ScalsOk T sclr (x.is.map Gr.Ni.nd)) (w:World) (hTw:T w) (h:GsAt w w.heap.size A l) (hck:ArgsOk sclr w l)
 (hck2:l.any (fun x=>x.chk sclr != 0)=false->∀W A c vs,T W->GAt W W.heap.size A vs (listN (l.map GArg.p))->ChkOk W (.agg #[.slice A (listN (l.map GArg.p)).length c,.int .i64 0]) (checkG sclr (listN (l.map GArg.p)) 0)):
 Calls prog 10 #[.slice A l.length c] w (zt4 sclr l w):=by
 obtain⟨w1,aj⟩:=ex (w.alloc (.cells #[.slice none 0 0,.int .i64 0] 24))
 obtain⟨d,y⟩:=ex w.heap.size
 have au:w1.heap.size=d+1:=by rw[<-aj,<-y];simp
 have l1:Below d w w1:=by rw[<-aj,<-y];exact(Below.refl _ _).alloc (Nat.le_refl _) _
 have b1:Blk w1 d 24 #[.slice none 0 0,.int .i64 0]:=by rw[<-aj,<-y];exact Blk.new _ _ _
 obtain⟨E,ac⟩:=ex (w1.alloc (.cells #[.int .i64 9,.string ⟨#[]⟩,.bool false,.slice none 0 0,.slice none 0 0] 36))
 have l2:Below (d+1) w1 E:=by rw[<-ac];exact(Below.refl _ _).alloc (by omega) _
 have b2:Blk E (d+1) 36 #[.int .i64 9,.string ⟨(([]:Gr.Str)).toArray⟩,.bool false,.slice none 0 0,.slice none 0 0]:=by rw[<-ac,<-au];exact Blk.new _ _ _
 have a7:=Tab.one (B:=d+1) b2 (Nat.le_refl _);have ap:Below d w E:=l1.trans (l2.mono (by omega));have bG:=hid a7;have a3:=hid ap;have aY:Hid (GsAt E d A l):=hid (by have:=h.below (by rw[y];exact ap);rwa[y]at this);have bp:Hid (ArgsOk sclr E l):=hid (fun x R=>(hck x R).later (by rw[y];exact ap));have H:Hid (Blk E d 24 #[.slice none 0 0,.int .i64 0]):=hid (b1.below l2 (by omega));have bD:Hid (∀W,Below d w W->T W):=hid (fun W hW=>hT _ _ hTw (by rw[y];exact hW));have ao:Hid (E.heap.size=d+2):=hid (by rw[<-ac];simp[au]);have aM:=hid y;have bo:=hid hks;have HSC:=hid hsc;have bs:=hid hck2;clear hTw h hck hck2 hks hsc l1 l2 b1 b2 a7 ap;go_enter func10,ntmps10;go_upto_region 1 with fail;(try rw[aj]);(try rw[y]);go_upto_region 2 with fail;(try rw[ac]);(try rw[au]);clear aj y ac au;go_upto_region 3 with fail;go_loopw [14] (fun s14 wr=>∃(j:Nat),j<=l.length/\s14=.int .i64 j/\Hid ((l.take j).any (fun x=>x.chk sclr != 0)=false/\Below E.heap.size E wr)) (fun s14 _=>l.length-(intOf s14).toNat)
 case atStart=>exact⟨0,by omega,rfl,hid ⟨rfl,Below.refl _ _⟩⟩
 case round=>
  obtain⟨j,hj,rfl,HW⟩:=hrel;obtain⟨wq,bH⟩:∃wq,wq=wr:=⟨_,rfl⟩
  subst bH;have aO:=H.out.below HW.out.2 H.out.lt;have ak:=hid aO;by_cases hlt:j<l.length
  .have K:(j:Int)<(l.length:Int):=by omega
   obtain⟨ad,rfl,aX,a0,a1⟩:=zup (aY.out.below (HW.out.2.mono (by have:=ao.out;omega))).row hlt;obtain⟨x,R⟩:=ex (l[j])
   have P:x∈l:=by rw[<-R];exact List.getElem_mem hlt
   have bl:Hid ((l.take (j+1)).any (fun x=>x.chk sclr != 0)=((l.take j).any (fun x=>x.chk sclr != 0) || x.chk sclr != 0)):=hid (by rw[List.take_succ_eq_append_getElem hlt,List.any_append,R];simp);have aw:Hid (x.chk sclr≠0->l.any (fun x=>x.chk sclr != 0)=true):=hid (fun h=>zki _ l j hlt (by rw[R];simpa using h));rw[R]at a0 a1;obtain⟨ck,hck⟩:=ex (x.chk sclr)
   have bC:Hid (ChkOk wq (.agg #[.slice x.a x.is.length x.c,.int .i64 x.root]) ck):=hid (by rw[<-hck];exact(bp.out x P).later HW.out.2);rw[hck]at bl aw;clear R hck aO;obtain⟨U,D⟩:=ex (wq.alloc (.cells #[.slice x.a x.is.length x.c,.int .i64 x.root] 24))
   obtain⟨nb,o⟩:=ex wq.heap.size
   have l6:Below nb wq U:=by rw[<-D,<-o];exact(Below.refl _ _).alloc (Nat.le_refl _) _
   have b6:Blk U nb 24 #[.slice x.a x.is.length x.c,.int .i64 x.root]:=by rw[<-D,<-o];exact Blk.new _ _ _
   obtain⟨c0,F⟩:=cells2 b6;have aC:E.heap.size<=nb:=by rw[<-o];exact HW.out.2.size
   have ah:Hid (Below E.heap.size E U):=hid (HW.out.2.trans (l6.mono aC));have bw:Hid (ChkOk U (.agg #[.slice x.a x.is.length x.c,.int .i64 x.root]) ck):=hid (bC.out.later (by rw[o];exact l6));have HB6:Hid (Blk U d 24 #[.slice none 0 0,.int .i64 0]):=hid (H.out.below ah.out H.out.lt);clear l6 b6 aC;go_upto_region 5 with fail;(try rw[D]);(try rw[o]);clear D o a0 a1;go_wp2_with fail;refine(bw.out U (Below.refl _ _)).mono ?_;rintro e Q ⟨rfl,u⟩;have aB:=ah.out.size;have ai:=ah.out.trans (u.mono aB);have ab:=hid ai;have z:=H.out.below ai H.out.lt;have ag:=hid z;obtain⟨d0,d1⟩:=cells2 z;have df:∀i,Q.frozen? ⟨d,i,none⟩=false:=z.frozen;clear u ai z aB c0 F;by_cases h0:ck=0
   .subst h0;go_wp2;go_roundw
    case rel=>exact⟨j+1,by omega,by go_num,hid ⟨by rw[bl.out,HW.out.1];rfl,ab.out⟩⟩
    case measure=>simp[intOf];omega
   .have bn:((ck:Int)==0)=false:=by rw[beq_eq_false_iff_ne];omega
    have bE:=hid (aw.out h0);go_wp2_with fail;refine bodyPost_ret (v:=.tuple #[gZero,.int .i64 3]) (by rw[results_cell_tmp rfl];go_simp;rfl) rfl (And.intro ?_ (And.intro (fun _=>rfl) (fun N=>?_)))
    .rw[aM.out];exact((a3.out.trans (ab.out.mono (by have:=ao.out;omega))).setCell (by simp) _).setCell (by simp) _
    .rw[bE.out]at N;cases N
  .have K:¬(j:Int)<(l.length:Int):=by omega
   have L:Hid (l.any (fun x=>x.chk sclr != 0)=false):=hid (by have:=HW.out.1;rwa[List.take_of_length_le (by omega)]at this);have aF:Hid (Tab (d+1) wq (.slice (some ⟨d+1,0,none⟩) 1 1) [⟨9,[],false,SV.nil,SV.nil⟩] [⟨9,[],false,[],[]⟩]/\Below (d+1) E wq):=hid ⟨bG.out.later HW.out.2,HW.out.2.mono (by have:=ao.out;omega)⟩;clear aO HW ak;go_upto_region 9 with fail;go_loopw [4,25] (fun s4 s25 wr=>∃(j:Nat) (A1:Option Addr) (n1 F:Nat) (vs1:List NV),j<=l.length/\s25=.int .i64 j/\s4=.slice A1 n1 F/\Hid (Tab (d+1) wr (.slice A1 n1 F) vs1 (listN ((l.take j).map GArg.p))/\Below (d+1) E wr/\(listN ((l.take j).map GArg.p)).length<=1+j*4096/\0<(listN ((l.take j).map GArg.p)).length/\∀m,(listN ((l.take j).map GArg.p)).head?=some m->m.items.length<=j)) (fun _ s25 _=>l.length-(intOf s25).toNat)
   case atStart=>exact⟨0,_,_,_,_,by omega,rfl,rfl,hid ⟨aF.out.1,aF.out.2,by simp[listN],by simp[listN],by simp[listN]⟩⟩
   case round=>
    clear hlt K hj;clear aF;obtain⟨j,A1,n1,F,vs1,hj,rfl,rfl,M⟩:=hrel;obtain⟨wp,bv⟩:∃wp,wp=wr:=⟨_,rfl⟩
    subst bv;have aQ:Below d w wp:=a3.out.trans (M.out.2.1.mono (by omega));have bf:=hid aQ;have ak:=hid (H.out.below M.out.2.1 (by omega));clear aQ;by_cases hlt:j<l.length
    .have K:(j:Int)<(l.length:Int):=by omega
     have aV:=hid (aY.out.below (M.out.2.1.mono (by omega)));obtain⟨ad,rfl,aX,a0,a1⟩:=zup aV.out.row hlt;obtain⟨x,R⟩:=ex (l[j])
     have P:x∈l:=by rw[<-R];exact List.getElem_mem hlt
     rw[R]at a0 a1;have ay:x.chk sclr=0:=by
      have:=L.out;rw[List.any_eq_false]at this;have:=this x P;simpa using this
     obtain⟨bq,bu,a4⟩:=zx4 ay;obtain⟨r,hr,bA,aS,aL⟩:=zx5 a4;rw[hr]at a1;obtain⟨f,s⟩:=ex (listN ((l.take j).map GArg.p))
     obtain⟨gs,ae⟩:=ex (x.is.map Gr.Ni.nd)
     have a5:x.is.length=gs.length:=by rw[<-ae];simp
     have al:Hid (listN ((l.take (j+1)).map GArg.p)=push0 (r+f.length) (f++gs.map (shN f.length))):=hid (by
      rw[List.take_succ_eq_append_getElem hlt,R,List.map_append];unfold listN at s ⊢;rw[List.foldl_append,s];show lstep f x.p=_;unfold lstep GArg.p;rw[ae,hr,Int.toNat_natCast])
     have V:=(aV.out.each x P).toG aS;rw[ae]at V aL;have aP:=bo.out x P;rw[ae]at aP;rw[s]at M;rw[a5]at a0;have bj:=M.out.2.2.1;have bh:=M.out.2.2.2.1;have bB:=hid M.out.2.2.2.2;obtain⟨U,D⟩:=ex (wp.alloc (.cells #[.slice x.a gs.length x.c,.int .i64 r] 24))
     obtain⟨nb,o⟩:=ex wp.heap.size
     have l6:Below nb wp U:=by rw[<-D,<-o];exact(Below.refl _ _).alloc (Nat.le_refl _) _
     have b6:Blk U nb 24 #[.slice x.a gs.length x.c,.int .i64 r]:=by rw[<-D,<-o];exact Blk.new _ _ _
     obtain⟨z0,z1⟩:=cells2 b6;have aT:d+2<=nb:=by rw[<-o];have:=ao.out;have:=M.out.2.1.size;omega
     have a8:=zef (d+1) x.a x.c r x.vs gs (.slice A1 n1 F) vs1 f (by omega) (by omega) aP aL (by omega) U ((V.below (l6.mono (by omega))).more (by omega)) (M.out.1.later (by rw[o];exact l6)) (by have:=b6.lt;omega);have bF:=hid a8;have ah:=hid (l6.mono (show d+1<=nb by omega));have O:Hid (f.length<=1+j*4096/\gs.length<=4096/\0<f.length/\d+2<=U.heap.size):=hid ⟨bj,by omega,bh,by have:=b6.lt;omega⟩;clear l6 b6 a8 V aP aL bq bu a4 bA aS ay a5 ae s R P hr aT bj bh;go_upto_region 12 with fail;(try rw[D]);(try rw[o]);clear D o a0 a1;go_wp2_with fail;refine bF.out.mono ?_;rintro e Q ⟨v7,an,rfl,J,u,_⟩;have S:an≠[]:=by
      intro e;have:=J.rows.len;rw[e]at this;have:=O.out.2.2.1;simp at *;omega
     obtain⟨g,bi,rest,aU,Z,X,a2,_⟩:=J.row.row S;obtain⟨nn,av⟩:=ex an.length
     rw[av]at aU Z;subst aU;obtain⟨I,vl,rfl⟩:∃I vl,an=I::vl:=by cases an with
      |nil=>exact absurd rfl S
      |cons a b=>exact⟨a,b,rfl⟩
     have C:=J.rows.len;obtain⟨m,nl,af⟩:∃m nl,f++gs.map (shN f.length)=m::nl:=by
      cases h:f++gs.map (shN f.length)with
      |nil=>rw[h]at C;cases C
      |cons a b=>exact⟨a,b,rfl⟩
     have hnn0:0<nn:=by rw[<-av];simp
     have hnn0I:(0:Int)<(nn:Int):=by omega
     have HNN:Hid (nn=f.length+gs.length):=hid (by rw[<-av,C];simp);rw[af]at J;have aG:=hid af;have aq:=hid J;have aZ:=hid X;have HBG:=hid a2;have ar:=hid u;have HCAP:=hid Z;have k4:Q.cell? ⟨g,4,none⟩=some (.slice I.i.a I.i.n I.i.c):=X.cell 4;have bc:OwnRow intL Q (d+1) 3 (.slice I.i.a I.i.n I.i.c) m.items:=J.rows.own 0 true;have ba:=hid bc;have ax:Hid (m.items.length<=j):=hid (bB.out m (by
      have h2:=aG.out;cases s:f with
      |nil=>have:=O.out.2.2.1;rw[s]at this;simp at this
      |cons a b=>rw[s]at h2;simp at h2;simp[h2.1]))
     obtain⟨k,hk⟩:=ex (r+f.length)
     have bb:(r:Int)+(f.length:Int)=(k:Int):=by omega
     rw[hk]at al;rw[bb];clear J X a2 u af C S bc Z av hk bb z0 z1;go_upto_region 13 with fail;go_wp2_with (at_builtin;go_must (refine zab _ rfl (.tmp 39) (.tmp 41) 34 3 8 rfl intT (d+1) (.slice I.i.a I.i.n I.i.c) m.items rfl (ba.out.alloc _) _ _ 1 [k] rfl (RowAt.lit1 _ _ rfl _ ?_) ?_ ?_ ?_))
     any_goals (first|rfl| (have:=ax.out;have:=ar.out.size;have:=O.out.2.2.2;simp;omega))
     intro v8 w8 aa hg bd;obtain⟨A8,c8,bg,_⟩:=aa.form;obtain⟨q,hq⟩:=ex ((m.items++[k]).length)
     rw[hq]at bg;subst bg;clear hq;obtain⟨i,hi,aE,bm,aN⟩:=(aq.out.later ((Below.refl Q.heap.size Q).alloc (Nat.le_refl _) _)).push aa hg (by rw[World.size_alloc];exact bd);have be:KeptT 36 Q w8:=(KeptT.alloc _ _ _).trans (KeptT.grown hg (ba.out.alloc _) (by decide));have aH:=be _ _ aZ.out;have k40:w8.cell? ⟨g,4,none⟩=some (.slice I.i.a I.i.n I.i.c):=aH.cell 4;have k4f:∀i,w8.frozen? ⟨g,i,none⟩=false:=aH.frozen;obtain⟨w9,aI⟩:=ex (w8.setCell ⟨g,4,none⟩ (.slice A8 q c8))
     rw[aI]at aE aN;have aA:=aN (by rw[World.size_alloc];have:=ar.out.size;have:=O.out.2.2.2;omega);have az:Below (d+1) E w9:=((((M.out.2.1.trans ah.out).trans ar.out).alloc (by have:=ar.out.size;have:=O.out.2.2.2;omega) _).trans aA)
     have bz:Hid (Tab (d+1) w9 (.slice (some ⟨g,0,none⟩) nn bi) ({I with i:=i}::vl) (listN ((l.take (j+1)).map GArg.p))/\Below (d+1) E w9/\(listN ((l.take (j+1)).map GArg.p)).length<=1+(j+1)*4096/\0<(listN ((l.take (j+1)).map GArg.p)).length/\∀m,(listN ((l.take (j+1)).map GArg.p)).head?=some m->m.items.length<=j+1):=hid (by
      rw[al.out,aG.out];have af:=congrArg List.length aG.out;simp only[List.length_append,List.length_map,List.length_cons]at af;have h1:=O.out;refine⟨aE,az,?_,?_,?_⟩
      .simp only[push0,List.length_cons];omega
      .simp[push0]
      .intro m' aW;simp[push0]at aW;subst aW;simp;exact ax.out)
     clear aa hg bd hi aE bm aN be aH aA az k4;go_wp2_with fail;(try rw[aI]);(try clear aI);go_roundw
     case rel=>exact⟨j+1,some ⟨g,0,none⟩,nn,bi,_,by omega,by go_num,rfl,bz⟩
     case measure=>simp[intOf];omega
    .have K:¬(j:Int)<(l.length:Int):=by omega
     have bt:j=l.length:=by omega
     have aR:l.take j=l:=List.take_of_length_le (by omega);rw[aR]at M;obtain⟨f,s⟩:=ex (listN (l.map GArg.p))
     rw[s]at M;obtain⟨A9,c9,aK,Y⟩:=M.out.1.at_;injection aK with e1 e2 e3
     subst e1 e2 e3;obtain⟨ck,hck⟩:=ex (checkG sclr f 0)
     have a6:=hid (bs.out L.out);rw[s,hck]at a6;have G:Hid (listN (l.map GArg.p)=f/\checkG sclr f 0=ck):=hid ⟨s,hck⟩;have bk:ChkOk wp (.agg #[.slice A1 f.length F,.int .i64 0]) ck:=a6.out wp A1 F vs1 (bD.out wp bf.out) Y;have aJ:=zfi A1 f.length F 0 ck wp bk;unfold gZero at aJ;have br:=hid aJ;have HG9:=hid Y;clear bt aR s hck bk aJ Y;go_upto_region 15 with fail;go_wp2_with fail;refine br.out.mono ?_;rintro e Q ⟨rfl,u⟩;have z:=ak.out.below u ak.out.lt;have aD:=bf.out.trans (u.mono (by have:=ak.out.lt;omega));have ab:=hid aD;have ag:=hid z;have aq:=hid (M.out.1.later u);obtain⟨d0,d1⟩:=cells2 z;have df:∀i,Q.frozen? ⟨d,i,none⟩=false:=z.frozen;clear u z aD;by_cases h0:ck=0
     .subst h0;go_wp2_with fail;have a9:∀t,t≠24->KeptT t Q ((Q.setCell ⟨d,0,none⟩ (.slice A1 f.length F)).setCell ⟨d,1,none⟩ (.int .i64 0)):=fun t ht=>(KeptT.setCell (p:=⟨d,0,none⟩) ag.out ht _).trans (KeptT.setCell (p:=⟨d,1,none⟩) (ag.out.set_ 0 _) ht _)
      have am:=(ag.out.set_ 0 (.slice A1 f.length F)).set_ 1 (.int .i64 0);have e0:=am.cell 0;have e1:=am.cell 1;have bx:Tab (d+1) ((Q.setCell ⟨d,0,none⟩ (.slice A1 f.length F)).setCell ⟨d,1,none⟩ (.int .i64 0)) (.slice A1 f.length F) vs1 f:=⟨aq.out.row.kept (a9 _ (by decide)),aq.out.rows.kept (a9 _ (by decide))⟩
      obtain⟨A9,c9,aK,Y⟩:=bx.at_;injection aK with f1 f2 f3
      subst f1 f3;refine bodyPost_ret (v:=.tuple #[.agg #[.slice A1 f.length F,.int .i64 0],.int .i64 0]) (by rw[results_cell_tmp rfl];go_simp) rfl (And.intro ?_ (And.intro (fun N=>?_) (fun _=>And.intro (fun N=>?_) (fun _=>?_))))
      .rw[aM.out];exact(ab.out.setCell (by simp) _).setCell (by simp) _
      .rw[L.out]at N;cases N
      .rw[G.out.1,G.out.2]at N;exact absurd rfl N
      .rw[G.out.1];exact⟨A1,F,vs1,rfl,Y⟩
     .have bn:((ck:Int)==0)=false:=by rw[beq_eq_false_iff_ne];omega
      go_wp2_with fail;have am:=(ag.out.set_ 0 (.slice none 0 0)).set_ 1 (.int .i64 0);have e0:=am.cell 0;have e1:=am.cell 1;refine bodyPost_ret (v:=.tuple #[gZero,.int .i64 ck]) (by rw[results_cell_tmp rfl];go_simp;rfl) rfl (And.intro ?_ (And.intro (fun N=>?_) (fun _=>And.intro (fun _=>?_) (fun N=>?_))))
      .rw[aM.out];exact(ab.out.setCell (by simp) _).setCell (by simp) _
      .rw[L.out]at N;cases N
      .rw[G.out.1,G.out.2]
      .rw[G.out.1,G.out.2]at N;exact absurd N h0
def sclU (kind:Int) (text:Gr.Str):Bool:=if kind=0 then text.isEmpty else if kind=2 then intB text else if kind=5 then utfB text else false
def KU (ns:List Gr.Nd):Prop:=∀x∈ns,x.kind=0\/x.kind=2\/x.kind=5\/x.kind=9\/x.kind=10\/x.kind=11
theorem scalsU (ns:List Gr.Nd) (hk:KU ns) (hn:NH ns):ScalsOk UT sclU ns:=by
 intro x c e a b _ _ _;have d:=(hn x c).2.2;rcases hk x c with h|h|h|h|h|h
 .rw[h];exact zik x.text
 .rw[h];exact zep x.text d
 .rw[h];exact zff x.text d
 .exact absurd h e
 .exact absurd h a
 .exact absurd h b
def nOne:Gr.Nd:=⟨2,[49],false,[],[]⟩
def nA:Gr.Nd:=⟨5,[97],false,[],[]⟩
def nsL:List Gr.Nd:=[⟨9,[],false,[],[1,2]⟩,nOne,nA]
def nsLoop:List Gr.Nd:=[⟨9,[],false,[],[0]⟩]
theorem zrx:checkG sclU nsL 0=0:=by decide+kernel
theorem zry:checkG sclU nsLoop 0=0:=by decide+kernel
theorem znx:depth nsLoop 0=(0,false):=by decide+kernel
theorem zxe:intB [49]=true:=by decide+kernel
theorem zxf:intB [48,49]=false:=by decide+kernel
theorem zy7:utfB [97]=true:=by decide+kernel
theorem zxg:listN [([nOne.ni],0),([nA.ni],0)]=nsL:=by rfl
theorem zt6:checkI sclU [nOne.ni] 0=0:=by decide+kernel
theorem zyq:checkI sclU [nA.ni] 0=0:=by decide+kernel
theorem zch (ns:List Gr.Nd) (h:(ns.all fun n=>decide (n.keys.length<=1000/\n.items.length<=1000/\n.text.length<=1000))=true):NH ns:=by
 intro n a;have:=List.all_eq_true.1 h n a;simp at this;omega
theorem za7 (ns:List Gr.Nd) (h:(ns.all fun n=>(n.keys++n.items).all fun r=>decide (r<ns.length))=true):Refs ns:=by
 intro n a r b;have:=List.all_eq_true.1 (List.all_eq_true.1 h n a) r b;simpa using this
theorem zbw (ns:List Gr.Nd) (h:(ns.all fun n=>n.kind==0 || n.kind==2 || n.kind==5 || n.kind==9 || n.kind==10 || n.kind==11)=true):KU ns:=by
 intro n a;have:=List.all_eq_true.1 h n a;simp at this;omega
theorem zcb (A:Option Addr) (c:Nat) (vs:List NV) (ns:List Gr.Nd) (w:World) (hUT:UT w) (h1:NH ns) (h2:KU ns) (h3:Refs ns) (h4:0<ns.length) (h5:ns.length<=1073741823) (h:GAt w w.heap.size A vs ns):ChkOk w (.agg #[.slice A ns.length c,.int .i64 0]) (checkG sclU ns 0):=
 fun W a=>zpq UT UT.stays sclU A c 0 vs ns h1 (scalsU ns h2 h1) h5 h3 h4 W (UT.stays _ _ hUT a) ((h.below a).more a.size)
theorem zt7 (w:World) (hUT:UT w):ChkOk w gZero 3:=by
 intro W d;have:=zfc UT UT.stays sclU none 0 0 [] [] (by simp[NH]) (by simp[ScalsOk]) (by simp) W (UT.stays _ _ hUT d) ⟨?_,rfl,fun j h=>by simp at h,fun j h=>by simp at h⟩
 .exact this
 .exact(OwnRow.nil (L:=nodeL) (w:=W) (base:=0) (E:=36)).form.elim (fun A h=>by obtain⟨c,a,b⟩:=h;injection a with e1;subst e1;exact b)
theorem zhn {w:World} {g:Nat} {kind:Int} {text:Gr.Str} (h:Blk w g 36 #[.int .i64 kind,.string ⟨text.toArray⟩,.bool false,.slice none 0 0,.slice none 0 0]):GAt w w.heap.size (some ⟨g,0,none⟩) [⟨kind,text,false,SV.nil,SV.nil⟩] [⟨kind,text,false,[],[]⟩]:=by
 obtain⟨A,c,b,a⟩:=(Tab.one (B:=0) h (Nat.zero_le _)).at_;injection b with e1 e2 e3
 subst e1;exact a
def argOf (g:Nat) (kind:Int) (text:Gr.Str):GArg:=⟨some ⟨g,0,none⟩,1,0,[⟨kind,text,false,SV.nil,SV.nil⟩],[(⟨kind,text,false,[],[]⟩:Gr.Nd).ni]⟩
open Go.RowKit
theorem zt8 (A:Option Addr) (c g1 g2:Nat) (w:World) (hUT:UT w) (h1:Blk w g1 36 #[.int .i64 2,.string ⟨([49]:Gr.Str).toArray⟩,.bool false,.slice none 0 0,.slice none 0 0]) (h2:Blk w g2 36 #[.int .i64 5,.string ⟨([97]:Gr.Str).toArray⟩,.bool false,.slice none 0 0,.slice none 0 0])
 (hrow:RowAt argL w w.heap.size A [argOf g1 2 [49],argOf g2 5 [97]]):
 Calls Tryz.prog 10 #[.slice A 2 c] w fun e w'=>Below w.heap.size w w'/\∃A3 c3 vs,e=.returned (.tuple #[.agg #[.slice A3 3 c3,.int .i64 0],.int .i64 0])/\GAt w' w'.heap.size A3 vs nsL:=by
 have k:GArg.chk sclU (argOf g1 2 [49])=0:=zt6;have m:GArg.chk sclU (argOf g2 5 [97])=0:=zyq;have d:NH [nOne]:=zch _ (by decide);have f:NH [nA]:=zch _ (by decide);have q:=(zhn h1).toI;have n:=(zhn h2).toI;have b:listN ([argOf g1 2 [49],argOf g2 5 [97]].map GArg.p)=nsL:=zxg;have j:NH nsL:=zch _ (by decide);have i:[argOf g1 2 [49],argOf g2 5 [97]].any (fun x=>x.chk sclU != 0)=false:=by simp[k,m]
 have h:=zt5 UT UT.stays sclU A c [argOf g1 2 [49],argOf g2 5 [97]] (by simp)
  (by
    intro x a;simp at a;rcases a with rfl|rfl
    .exact d
    .exact f)
  (by
    intro x a;simp at a;rcases a with rfl|rfl
    .exact scalsU [nOne] (zbw _ (by decide)) d
    .exact scalsU [nA] (zbw _ (by decide)) f)
  w hUT ⟨hrow,by intro x a;simp at a;exact a.elim (fun e=>e▸q) (fun e=>e▸n)⟩
  (by
    intro x a;simp at a;rcases a with rfl|rfl
    .rw[k];exact zcb _ _ _ [nOne] w hUT d (zbw _ (by decide)) (za7 _ (by decide)) (by decide) (by decide) (zhn h1)
    .rw[m];exact zcb _ _ _ [nA] w hUT f (zbw _ (by decide)) (za7 _ (by decide)) (by decide) (by decide) (zhn h2))
  (by
    intro _ W A c vs s l;rw[b]at l ⊢;exact zcb _ _ _ nsL W s j (zbw _ (by decide)) (za7 _ (by decide)) (by decide) (by decide) l)
 refine h.mono ?_;rintro e w' ⟨r,_,o⟩;refine⟨r,?_⟩;have g:=(o i).2;rw[b]at g;exact g zrx
theorem zt9 {w:World} {g gi:Nat} (h:Blk w g 36 #[.int .i64 9,.string ⟨#[]⟩,.bool false,.slice none 0 0,.slice (some ⟨gi,0,none⟩) 1 1]) (hi:Blk w gi 3 #[.int .i64 0]):∃vs,GAt w w.heap.size (some ⟨g,0,none⟩) vs nsLoop:=by
 have f:OwnRow intL w 0 3 (.slice (some ⟨gi,0,none⟩) 1 1) [0]:=zb6 (l:=[0]) hi (Nat.zero_le _) rfl (by decide);have i:=(Rows.nil 0 w).snoc ⟨9,[],false,SV.nil,⟨some ⟨gi,0,none⟩,1,1⟩⟩ ⟨9,[],false,[],[0]⟩ ⟨rfl,rfl,rfl⟩ OwnRow.nil f (fun g h=>by simp[SV.nil,SV.v,Value.ownBlock]at h) (fun j b g h=>by simp[ints,SV.nil,SV.v,Value.ownBlock]at h);have a:Tab 0 w (.slice (some ⟨g,0,none⟩) 1 1) [⟨9,[],false,SV.nil,⟨some ⟨gi,0,none⟩,1,1⟩⟩] nsLoop:=⟨⟨nodeL.all_len _,.inr ⟨g,1,_,rfl,Nat.zero_le _,h,Nat.le_refl _,by decide,rfl,rfl⟩⟩,i⟩
 obtain⟨A,c,d,e⟩:=a.at_;injection d with e1 e2 e3
 subst e1;exact⟨_,e⟩
theorem zua {w:World} {A:Option Addr} {c:Nat} {vs:List NV} (h:GAt w w.heap.size A vs nsLoop):DepOk w (.agg #[.slice A 1 c,.int .i64 0]) (0,false):=by
 intro W a;have:=ze6 A c 0 vs nsLoop (za7 _ (by decide)) (by decide) (by intro n d;have:=zch nsLoop (by decide) n d;exact⟨this.1,this.2.1⟩) (by decide)
  (by intro v e;have b:v=0:=by simp[nsLoop]at e;omega
      subst b;exact .refl _) W ((h.below a).more a.size)
 rw[znx]at this;exact this
theorem zrz (w:World) (hUT:UT w):Calls prog 5 #[] w fun e w'=>e=.returned (.bool true)/\Below w.heap.size w w':=by
 have aE:Hid (∀W,UT W->Calls prog 9 #[.int .i64 2,.string ⟨([49]:Gr.Str).toArray⟩] W fun e w'=>Below W.heap.size W w'/\∃g,W.heap.size<=g/\e=.returned (.tuple #[.agg #[.slice (some ⟨g,0,none⟩) 1 1,.int .i64 0],.int .i64 0])/\Blk w' g 36 #[.int .i64 2,.string ⟨([49]:Gr.Str).toArray⟩,.bool false,.slice none 0 0,.slice none 0 0]):=hid (fun W hW=>(zd1 UT UT.stays 2 [49] true (by decide) (by decide) (by rw[<-zxe];exact zep [49] (by decide)) W hW).mono (by
  rintro e w' ⟨hb,_,h⟩;exact⟨hb,h rfl⟩))
 have aI:Hid (∀W,UT W->Calls prog 9 #[.int .i64 5,.string ⟨([97]:Gr.Str).toArray⟩] W fun e w'=>Below W.heap.size W w'/\∃g,W.heap.size<=g/\e=.returned (.tuple #[.agg #[.slice (some ⟨g,0,none⟩) 1 1,.int .i64 0],.int .i64 0])/\Blk w' g 36 #[.int .i64 5,.string ⟨([97]:Gr.Str).toArray⟩,.bool false,.slice none 0 0,.slice none 0 0]):=hid (fun W hW=>(zd1 UT UT.stays 5 [97] true (by decide) (by decide) (by rw[<-zy7];exact zff [97] (by decide)) W hW).mono (by
  rintro e w' ⟨hb,_,h⟩;exact⟨hb,h rfl⟩))
 have aj:Hid (∀W,UT W->Calls prog 9 #[.int .i64 2,.string ⟨([48,49]:Gr.Str).toArray⟩] W fun e w'=>Below W.heap.size W w'/\e=.returned (.tuple #[.agg #[.slice none 0 0,.int .i64 0],.int .i64 3])):=hid (fun W hW=>(zd1 UT UT.stays 2 [48,49] false (by decide) (by decide) (by rw[<-zxf];exact zep [48,49] (by decide)) W hW).mono (by
  rintro e w' ⟨hb,h,_⟩;exact⟨hb,h rfl⟩))
 have a:=hid hUT;clear hUT;go_enter func5,ntmps5;go_upto_region 1 with fail;go_wp2_with fail;refine(aE.out w a.out).mono ?_;rintro e w1 ⟨X,g1,aP,rfl,aB⟩;go_upto_region 2 with fail;obtain⟨w2,l⟩:=ex (w1.alloc (.cells #[.slice (some ⟨g1,0,none⟩) 1 1,.int .i64 0] 24))
 obtain⟨n1,V⟩:=ex w1.heap.size
 have I:Hid (Below w.heap.size w w2):=hid (by rw[<-l];exact X.alloc X.size _);have ae:Hid (Blk w2 g1 36 #[.int .i64 2,.string ⟨([49]:Gr.Str).toArray⟩,.bool false,.slice none 0 0,.slice none 0 0]):=hid (by rw[<-l];exact aB.alloc _);have ag:Hid (Blk w2 n1 24 #[.slice (some ⟨g1,0,none⟩) 1 1,.int .i64 0]):=hid (by rw[<-l,<-V];exact Blk.new _ _ _);have ar:=hid (UT.stays _ _ a.out I.out);clear X aP aB;(try rw[l]);(try rw[V]);clear l V;go_wp2_with fail;refine(aI.out w2 ar.out).mono ?_;rintro e w3 ⟨ai,Z,aN,rfl,aC⟩;go_upto_region 3 with fail;obtain⟨w4,p⟩:=ex (w3.alloc (.cells #[.slice (some ⟨Z,0,none⟩) 1 1,.int .i64 0] 24))
 obtain⟨n2,ac⟩:=ex w3.heap.size
 have G:Below w2.heap.size w2 w4:=by rw[<-p];exact ai.alloc ai.size _
 have E:=hid (I.out.trans (G.mono I.out.size));have r:=hid (ae.out.below G ae.out.lt);have aK:=ag.out.below G ag.out.lt;have t:Hid (Blk w4 Z 36 #[.int .i64 5,.string ⟨([97]:Gr.Str).toArray⟩,.bool false,.slice none 0 0,.slice none 0 0]):=hid (by rw[<-p];exact aC.alloc _);have ay:Blk w4 n2 24 #[.slice (some ⟨Z,0,none⟩) 1 1,.int .i64 0]:=by rw[<-p,<-ac];exact Blk.new _ _ _
 have aL:=hid (UT.stays _ _ a.out E.out);obtain⟨a0,a1⟩:=cells2 aK;obtain⟨a2,a3⟩:=cells2 ay;clear ai aN aC G aK ay;(try rw[p]);(try rw[ac]);clear p ac;obtain⟨w5,H⟩:=ex (w4.alloc (.cells #[.slice (some ⟨g1,0,none⟩) 1 1,.int .i64 0,.slice (some ⟨Z,0,none⟩) 1 1,.int .i64 0] 24))
 obtain⟨n3,T⟩:=ex w4.heap.size
 have i:Below w4.heap.size w4 w5:=by rw[<-H];exact(Below.refl _ _).alloc (Nat.le_refl _) _
 have N:RowAt argL w5 w5.heap.size (some ⟨n3,0,none⟩) [argOf g1 2 [49],argOf Z 5 [97]]:=by
  have ho:OwnRow argL w5 0 24 (.slice (some ⟨n3,0,none⟩) 2 2) [argOf g1 2 [49],argOf Z 5 [97]]:=⟨argL.all_len _,.inr ⟨n3,2,_,rfl,Nat.zero_le _,by rw[<-H,<-T];exact Blk.new _ _ _,Nat.le_refl _,by decide,rfl,rfl⟩⟩
  obtain⟨A,c,hv,hg⟩:=ho.form;injection hv with e1 e2 e3
  subst e1;exact hg
 have af:=hid (E.out.trans (i.mono E.out.size));have hl:=zt8 (some ⟨n3,0,none⟩) 2 g1 Z w5 (UT.stays _ _ aL.out i) (r.out.below i r.out.lt) (t.out.below i t.out.lt) N;have HL:=hid hl;clear i N hl ag ae r t aE aI;go_wp2_with fail;(try rw[H]);(try rw[T]);clear H T a0 a1 a2 a3;refine HL.out.mono ?_;rintro e w6 ⟨aw,Q,c3,L,rfl,az⟩;go_upto_region 4 with fail;obtain⟨R,z⟩:=ex (w6.alloc (.cells #[.slice Q 3 c3,.int .i64 0] 24))
 obtain⟨n5,U⟩:=ex w6.heap.size
 have C:Below w6.heap.size w6 R:=by rw[<-z];exact(Below.refl _ _).alloc (Nat.le_refl _) _
 have v:=af.out.trans (aw.mono af.out.size);have K:=hid (v.trans (C.mono v.size));have ak:Hid (GAt R R.heap.size Q L nsL):=hid ((az.below C).more C.size);have f:Hid (Blk R n5 24 #[.slice Q 3 c3,.int .i64 0]):=hid (by rw[<-z,<-U];exact Blk.new _ _ _);have aO:=hid (UT.stays _ _ a.out K.out);clear aw az C v HL I E af ar aL;(try rw[z]);(try rw[U]);clear z U;go_wp2_with fail;refine(aj.out R aO.out).mono ?_;rintro e w8 ⟨aa,rfl⟩;go_upto_region 5 with fail;obtain⟨P,ab⟩:=ex (w8.alloc (.cells #[.slice none 0 0,.int .i64 0] 24))
 obtain⟨n7,ax⟩:=ex w8.heap.size
 have x:Below R.heap.size R P:=by rw[<-ab];exact aa.alloc aa.size _
 have ad:=hid (K.out.trans (x.mono K.out.size));have aF:Hid (GAt P P.heap.size Q L nsL):=hid ((ak.out.below x).more x.size);have j:=hid (f.out.below x f.out.lt);clear aa x ak f aj;(try rw[ab]);(try rw[ax]);clear ab ax;go_upto_region 6 with fail;obtain⟨s,hs⟩:=ex P.heap.size
 (try rw[hs]);obtain⟨wa,k⟩:=ex (P.alloc (.cells #[.int .i64 0] 3))
 have ba:Blk wa s 3 #[.int .i64 0]:=by rw[<-k,<-hs];exact Blk.new _ _ _
 have la:Below s P wa:=by rw[<-k,<-hs];exact(Below.refl _ _).alloc (Nat.le_refl _) _
 have sa:wa.heap.size=s+1:=by rw[<-k,<-hs];simp
 obtain⟨wb,n⟩:=ex (wa.alloc (.cells #[.int .i64 9,.string ⟨#[]⟩,.bool false,.slice none 0 0,.slice (some ⟨s,0,none⟩) 1 1] 36))
 have bb:Blk wb (s+1) 36 #[.int .i64 9,.string ⟨#[]⟩,.bool false,.slice none 0 0,.slice (some ⟨s,0,none⟩) 1 1]:=by rw[<-n,<-sa];exact Blk.new _ _ _
 have lb:Below (s+1) wa wb:=by rw[<-n];exact(Below.refl _ _).alloc (by omega) _
 have sb:wb.heap.size=s+2:=by rw[<-n];simp[sa]
 obtain⟨wc,D⟩:=ex (wb.alloc (.cells #[.slice (some ⟨s+1,0,none⟩) 1 1,.int .i64 0] 24))
 have bc:Blk wc (s+2) 24 #[.slice (some ⟨s+1,0,none⟩) 1 1,.int .i64 0]:=by rw[<-D,<-sb];exact Blk.new _ _ _
 have lc:Below (s+2) wb wc:=by rw[<-D];exact(Below.refl _ _).alloc (by omega) _
 have au:Blk wc (s+1) 36 #[.int .i64 9,.string ⟨#[]⟩,.bool false,.slice none 0 0,.slice (some ⟨s,0,none⟩) 1 1]:=bb.below lc (by omega);have aD:Blk wc s 3 #[.int .i64 0]:=(ba.below lb (by omega)).below lc (by omega);have d:Below P.heap.size P wc:=by rw[hs];exact la.trans ((lb.mono (by omega)).trans (lc.mono (by omega)))
 obtain⟨vl,M⟩:=zt9 au aD;have av:=hid M;have F:=hid (ad.out.trans (d.mono ad.out.size));have aA:Hid (GAt wc wc.heap.size Q L nsL):=hid ((aF.out.below d).more d.size);have q:=j.out.below d j.out.lt;have f:=hid q;have ah:=hid bc;have ap:=hid (UT.stays _ _ a.out F.out);obtain⟨q0,q1⟩:=cells2 bc;have HD:Hid (Calls prog 11 #[.agg #[.slice (some ⟨s+1,0,none⟩) 1 1,.int .i64 0]] wc fun e w'=>e=.returned (.tuple #[.int .i64 0,.bool false])/\Below wc.heap.size wc w'):=hid (by
  have O:=zcb (some ⟨s+1,0,none⟩) 1 vl nsLoop wc ap.out (zch _ (by decide)) (zbw _ (by decide)) (za7 _ (by decide)) (by decide) (by decide) M;rw[zry]at O;exact zpr (some ⟨s+1,0,none⟩) 1 1 0 0 (0,false) wc O (fun _=>zua M))
 (try rw[k]);(try rw[n]);(try rw[D]);clear hs k ba la sa n bb lb sb D bc lc au aD d M q aF j ad K;go_wp2_with fail;refine HD.out.mono ?_;rintro e S ⟨rfl,b⟩;have B:=hid (F.out.trans (b.mono F.out.size));have aJ:=hid (UT.stays _ _ a.out B.out);have q:=f.out.below b f.out.lt;have m:=ah.out.below b ah.out.lt;obtain⟨r0,r1⟩:=cells2 q;have o:=hid m;have aG:Hid (Calls prog 12 #[.agg #[.slice Q 3 c3,.int .i64 0]] S fun e w'=>e=.returned (.int .i64 3)/\Below S.heap.size S w'):=hid (by
  have O:=zcb Q c3 L nsL S aJ.out (zch _ (by decide)) (zbw _ (by decide)) (za7 _ (by decide)) (by decide) (by decide) ((aA.out.below b).more b.size);rw[zrx]at O;exact zst Q 3 c3 0 0 S O)
 have al:Hid (GAt S S.heap.size (some ⟨s+1,0,none⟩) vl nsLoop):=hid ((av.out.below b).more b.size);clear b q m f ah av aA q0 q1 HD F ap;go_upto_region 7 with fail;go_wp2_with fail;refine aG.out.mono ?_;rintro e we ⟨rfl,u⟩;have J:=hid (B.out.trans (u.mono B.out.size));have aq:=hid (UT.stays _ _ a.out J.out);have m:=o.out.below u o.out.lt;obtain⟨q0,q1⟩:=cells2 m;have an:Hid (ChkOk we (.agg #[.slice (some ⟨s+1,0,none⟩) 1 1,.int .i64 0]) 0):=hid (by
  have O:=zcb (some ⟨s+1,0,none⟩) 1 vl nsLoop we aq.out (zch _ (by decide)) (zbw _ (by decide)) (za7 _ (by decide)) (by decide) (by decide) ((al.out.below u).more u.size);rw[zry]at O;exact O)
 clear u m r0 r1 o al B aJ aG;go_wp2_with fail;refine(an.out we (Below.refl _ _)).mono ?_;rintro e wf ⟨rfl,am⟩;have y:=hid (J.out.trans (am.mono J.out.size));have Y:=zt7 wf (UT.stays _ _ a.out y.out) wf (Below.refl _ _);unfold gZero at Y;have ao:=hid Y;clear am Y q0 q1 J aq an;go_wp2_with fail;refine ao.out.mono ?_;rintro e wg ⟨rfl,aH⟩;have aM:=hid (y.out.trans (aH.mono y.out.size));clear aH y ao;go_wp2;go_ret;exact⟨rfl,aM.out⟩
theorem zub (s:ByteArray):∃l:List UInt8,s=⟨l.toArray⟩:=⟨s.data.toList,by apply ByteArray.ext;simp⟩
theorem zuc (l:List UInt8):(⟨l.toArray⟩:ByteArray).size=l.length:=by simp[ByteArray.size]
theorem zr0 (A A2:Option Addr) (c c2:Nat) (root no:Int) (vs vs2:List NV) (is:List Gr.Ni) (hz:Sz is) (w:World) (h:IAt w w.heap.size A vs is) (h2:IAt w w.heap.size A2 vs2 is) (hck:no=0->ChkOk w (.agg #[.slice A is.length c,.int .i64 root]) 0):
 Calls prog 8 #[.agg #[.slice A is.length c,.int .i64 root],.int .i64 no,.agg #[.slice A2 is.length c2,.int .i64 root],.int .i64 no] w fun e w'=>e=.returned (.bool true)/\Below w.heap.size w w':=by
 have p:=hid (fun W (hW:Below w.heap.size w W)=>zmu A A2 c c2 root vs vs2 is hz W ((h.below hW).more hW.size) ((h2.below hW).more hW.size));have g:=hid hck;obtain⟨N,q⟩:=ex is.length
 rw[q]at p g ⊢;clear h h2 hz hck q;obtain⟨s,f⟩:=ex w.heap.size
 have HGB:=hid f;go_enter func8,ntmps8;go_upto_region 1 with fail;obtain⟨m,i⟩:=ex ((w.alloc (.cells #[.slice A N c,.int .i64 root] 24)).alloc (.cells #[.slice A2 N c2,.int .i64 root] 24))
 have a:Hid (Blk m s 24 #[.slice A N c,.int .i64 root]/\Blk m (s+1) 24 #[.slice A2 N c2,.int .i64 root]/\Below w.heap.size w m):=hid (by
  rw[<-i,<-f];refine⟨(Blk.new _ _ _).alloc _,?_,((Below.refl _ _).alloc (Nat.le_refl _) _).alloc (by simp) _⟩;have:=Blk.new (w.alloc (.cells #[.slice A N c,.int .i64 root] 24)) 24 #[.slice A2 N c2,.int .i64 root];rw[World.size_alloc]at this;exact this)
 (try rw[i]);(try rw[f]);clear i f;obtain⟨u,t⟩:=cells2 a.out.1;obtain⟨r,v⟩:=cells2 a.out.2.1;by_cases h0:no=0
 .have l:=hid (g.out h0);clear g;subst h0;have j:((0:Int)==0)=true:=rfl;go_wp2_with fail;refine(p.out _ a.out.2.2).mono ?_;rintro _ o ⟨rfl,b⟩;have d:Hid (Below w.heap.size w o):=hid (a.out.2.2.trans (b.mono a.out.2.2.size));have x:=a.out.1.below b a.out.1.lt;obtain⟨z,y⟩:=cells2 x;clear b x u t r v;go_wp2_with fail;refine(l.out _ d.out).mono ?_;rintro _ B ⟨rfl,k⟩;have n:Hid (Below w.heap.size w B):=hid (d.out.trans (k.mono d.out.size));clear k z y;go_wp2;go_ret;exact⟨rfl,n.out⟩
 .have j:(no==0)=false:=by simpa using h0
  have h0c:(no != 0)=true:=by rw[bne,j];rfl
  go_wp2_with fail;refine(p.out _ a.out.2.2).mono ?_;rintro _ o ⟨rfl,b⟩;have d:Hid (Below w.heap.size w o):=hid (a.out.2.2.trans (b.mono a.out.2.2.size));clear b u t r v;go_wp2;go_ret;exact⟨rfl,d.out⟩
theorem zy8 (A:Option Addr) (c:Nat) (root:Int) (vs:List NV) (is:List Gr.Ni) (hs:∀x∈is,x.text.length<=268435455/\x.keys.length<=1073741823/\x.items.length<=1073741823) (hl:is.length<=1073741823) (w:World) (hUT:UT w) (h:IAt w w.heap.size A vs is):
 ChkOk w (.agg #[.slice A is.length c,.int .i64 root]) (checkI sclX is root):=fun W d=>
 zfc UT UT.stays sclX A c root vs is (fun x a=>by
  obtain⟨y,b,rfl⟩:=List.mem_map.1 a;have:=hs y b;simp only[Gr.Ni.nd,List.length_map];omega) (fun x a _ _ _ _ _ _=>by
  obtain⟨y,b,rfl⟩:=List.mem_map.1 a;exact zu4 _ _ (hs y b).1) hl W (UT.stays _ _ hUT d) ((h.below d).more d.size)
theorem inil (w:World):IAt w w.heap.size none [] []:=by
 obtain⟨A,c,b,a⟩:=(OwnRow.nil (L:=nodeL) (w:=w) (base:=0) (E:=36)).form;injection b with e1 e2 e3
 rw[<-e1]at a;exact⟨a,rfl,fun j h=>absurd h (Nat.not_lt_zero _),fun j h=>absurd h (Nat.not_lt_zero _)⟩
theorem zy9 {is:List Gr.Ni} (h1:is.length<=maxLen) (h2:∀y∈is,y.text.length<=maxLen/\y.keys.length<=maxLen/\y.items.length<=maxLen):Sz is:=by
 unfold maxLen at h1 h2;exact⟨h1,h2⟩
theorem ck_g {ns:List Gr.Nd} {root:Nat} (hr:Gr.Refs ns) (h0:root<ns.length) (hl:ns.length<=1000) (hks:∀n∈ns,n.keys.length<=1000/\n.items.length<=1000/\n.text.length<=1000) (A:Option Addr) (c:Nat) (vs:List NV) (W:World) (hT:UT W) (hG:GAt W W.heap.size A vs ns):
 ChkOk W (.agg #[.slice A ns.length c,.int .i64 (root:Nat)]) (checkG sclX ns root):=fun d a=>
 zpq UT UT.stays sclX A c root vs ns (fun x b=>by have:=hks x b;omega) (fun x b _ _ _ _ _ _=>zu4 _ _ (by have:=hks x b;omega)) (by omega) hr h0 d (UT.stays _ _ hT a) ((hG.below a).more a.size)
theorem zyr {ns:List Gr.Nd} {A:Option Addr} {vs:List NV} {W:World} {B:Nat} (h:IAt W B A vs (ns.map Gr.Nd.ni)):GAt W B A vs ns:=by
 have:=h.toG (fun x b y a=>by
  obtain⟨z,hz,rfl⟩:=List.mem_map.1 b;have a:y∈z.keys.map Int.ofNat++z.items.map Int.ofNat:=a;rw[<-List.map_append]at a;obtain⟨u,_,rfl⟩:=List.mem_map.1 a;exact Int.natCast_nonneg u)
 rwa[Gr.zim]at this
theorem zza {ns:List Gr.Nd} (hl:ns.length<=1000) (hks:∀n∈ns,n.keys.length<=1000/\n.items.length<=1000/\n.text.length<=1000):Sz (ns.map Gr.Nd.ni):=
 ⟨by rw[List.length_map];omega,fun x b=>by
  obtain⟨y,a,rfl⟩:=List.mem_map.1 b;have:=hks y a;simp only[Gr.Nd.ni,List.length_map];omega⟩
theorem zys:Sz []:=⟨by simp,fun x a=>by cases a⟩
namespace Gr
theorem zvs {l:List Str} {k:Nat} (h:k<l.length) (hm:l[k]∈l.take k):dupS l=true:=by
 rw[<-Bool.not_eq_false];intro c;have d:=(zdv l).1 c;obtain⟨j,f,a⟩:=List.mem_iff_getElem.1 hm;rw[List.length_take]at f;rw[List.getElem_take]at a;have h2:j<k:=by omega
 exact absurd a (fun e=>absurd ((List.getElem_inj d).1 e) (by omega))
theorem zjr {l:List Str} {k:Nat} (h:k<l.length) (hn:(l.take k).Nodup) (hm:l[k]∉l.take k):(l.take (k+1)).Nodup:=by
 rw[List.take_succ_eq_append_getElem h,List.nodup_append];refine⟨hn,by simp,fun a d b c=>?_⟩;rw[List.mem_singleton]at c;subst c;exact fun e=>hm (e▸d)
theorem zx0 {l:List Str} {k:Nat} (h:l.length<=k) (hn:(l.take k).Nodup):dupS l=false:=by
 rw[List.take_of_length_le h]at hn;exact(zdv l).2 hn
theorem zmm {ns:List Nd} {f i:Nat} (h:i<ns.length) (hd:dupS (ns[i].keys.map (printF ns f))=true):rtwice ns f=true:=by
 unfold rtwice;rw[List.any_eq_true];exact⟨_,List.getElem_mem h,hd⟩
theorem zpi {ns:List Nd} {f i:Nat} (h:ns.length<=i) (ha:∀j,j<i->∀(hj:j<ns.length),dupS (ns[j].keys.map (printF ns f))=false):rtwice ns f=false:=by
 unfold rtwice;rw[List.any_eq_false];intro x a;obtain⟨j,hj,rfl⟩:=List.mem_iff_getElem.1 a;rw[ha j (by omega) hj];decide
def mt (ns:List Nd) (v i:Nat):Bool:=mkd (marks ns v) i && mkd (marks ns i) v
def lwt (ns:List Nd) (v k:Nat):Nat:=(List.range k).countP (mt ns v)
theorem zsp (ns:List Nd) (v k:Nat):lwt ns v (k+1)=lwt ns v k+(if mt ns v k=true then 1 else 0):=by
 unfold lwt;rw[List.range_succ,List.countP_append,List.countP_singleton]
theorem zx1 (ns:List Nd) (v k:Nat):lwt ns v k<=k:=by
 unfold lwt;exact Nat.le_trans List.countP_le_length (by simp)
def seen (ns:List Nd) (v k:Nat) (P:List Nat) (x:Nat):Prop:=(∃u,u<k/\mt ns v u=true/\x∈succ ns u/\mkd (marks ns x) v=false)\/(x∈P/\mkd (marks ns x) v=false)
structure LBest (ns:List Nd) (F:Nat->Nat) (v k:Nat) (P:List Nat) (b:Nat):Prop where
 ge:∀x,seen ns v k P x->F x<=b
 at_:b=0\/∃x,seen ns v k P x/\b=F x
section
variable {ns:List Nd} {F:Nat->Nat} {v k b:Nat} {P:List Nat}
theorem LBest.start:LBest ns F v 0 [] 0:=⟨by
 rintro x (⟨u,hu,_⟩|⟨h,_⟩)
 .omega
 .simp at h,.inl rfl⟩
theorem LBest.skip (h:LBest ns F v k [] b) (hm:mt ns v k=false):LBest ns F v (k+1) [] b:=by
 have e:∀x,seen ns v (k+1) [] x↔seen ns v k [] x:=by
  intro x;unfold seen;constructor
  .grind
  .grind
 exact⟨fun x a=>h.ge x ((e x).1 a),h.at_.imp id (fun⟨x,h1,h2⟩=>⟨x,(e x).2 h1,h2⟩)⟩
theorem LBest.next (h:LBest ns F v k P b) (hm:mt ns v k=true) (hP:P=succ ns k):LBest ns F v (k+1) [] b:=by
 have e:∀x,seen ns v (k+1) [] x↔seen ns v k P x:=by
  intro x;unfold seen;constructor
  .grind
  .grind
 exact⟨fun x a=>h.ge x ((e x).1 a),h.at_.imp id (fun⟨x,h1,h2⟩=>⟨x,(e x).2 h1,h2⟩)⟩
theorem LBest.old (h:LBest ns F v k P b) {y:Nat} (hy:mkd (marks ns y) v=true):LBest ns F v k (P++[y]) b:=by
 have e:∀x,seen ns v k (P++[y]) x↔seen ns v k P x:=by
  intro x;unfold seen;constructor
  .grind
  .grind
 exact⟨fun x a=>h.ge x ((e x).1 a),h.at_.imp id (fun⟨x,h1,h2⟩=>⟨x,(e x).2 h1,h2⟩)⟩
theorem LBest.new (h:LBest ns F v k P b) {y:Nat} (hy:mkd (marks ns y) v=false):LBest ns F v k (P++[y]) (max b (F y)):=by
 have e:∀x,seen ns v k (P++[y]) x↔seen ns v k P x\/x=y:=by
  intro x;unfold seen;constructor
  .grind
  .grind
 refine⟨fun x a=>?_,?_⟩
 .rcases(e x).1 a with h1|rfl
  .exact Nat.le_trans (h.ge x h1) (Nat.le_max_left _ _)
  .exact Nat.le_max_right _ _
 .rcases Nat.le_total b (F y)with h1|h1
  .grind
  .rw[Nat.max_eq_left h1];exact h.at_.imp id (fun⟨x,h2,h3⟩=>⟨x,(e x).2 (.inl h2),h3⟩)
theorem zk4 (hr:Refs ns) (hv:v<ns.length) {i:Nat} (hi:i<ns.length):mt ns v i=true↔Reach (succ ns) v i/\Reach (succ ns) i v:=by
 unfold mt;rw[Bool.and_eq_true,za2 hr hv,za2 hr hi]
theorem zpj (hr:Refs ns) {x:Nat} (hx:x<ns.length):mkd (marks ns x) v=false↔¬Reach (succ ns) x v:=by
 rw[<-za2 hr hx,Bool.not_eq_true]
open Classical in
theorem zx2 (hr:Refs ns) (hv:v<ns.length):lwt ns v ns.length=wt (succ ns) ns.length v:=by
 unfold lwt wt;apply List.countP_congr;intro i a;rw[zk4 hr hv (List.mem_range.1 a),decide_eq_true_eq]
theorem LBest.last (hr:Refs ns) (hv:v<ns.length) (hF:LongR (succ ns) ns.length F) (h:LBest ns F v ns.length [] b):lwt ns v ns.length+b=F v:=by
 rw[zx2 hr hv];have c:∀x,seen ns v ns.length [] x->wt (succ ns) ns.length v+F x<=F v:=by
  rintro x (⟨u,hu,h1,h2,h3⟩|⟨h1,_⟩)
  .have a:=(zk4 hr hv hu).1 h1;exact hF.up v u hv hu a.1 a.2 x h2 ((zpj hr (hr.succ u x h2)).1 h3)
  .simp at h1
 have hle:wt (succ ns) ns.length v+b<=F v:=by
  rcases h.at_ with h1|⟨x,h1,rfl⟩
  .subst h1;rcases hF.att v hv with h2|⟨u,_,_,_,x,_,_,h2⟩
   .omega
   .omega
  .exact c x h1
 rcases hF.att v hv with h2|⟨u,hu,h3,a,x,hx,hn,h2⟩
 .omega
 .have:=h.ge x (.inl ⟨u,hu,(zk4 hr hv hu).2 ⟨h3,a⟩,hx,(zpj hr (hr.succ u x hx)).2 hn⟩);omega
theorem LongR.lt (hF:LongR (succ ns) ns.length F) (hr:Refs ns) (hv:v<ns.length) {u x:Nat} (hu:u<ns.length) (hm:mt ns v u=true) (hx:x∈succ ns u) (hn:mkd (marks ns x) v=false):F x<F v:=by
 have a:=(zk4 hr hv hu).1 hm;have:=hF.up v u hv hu a.1 a.2 x hx ((zpj hr (hr.succ u x hx)).1 hn);have:=zkz (succ ns) ns.length v hv;omega
theorem LongR.pos (hF:LongR (succ ns) ns.length F) (hv:v<ns.length):0<F v:=by
 have:=zkz (succ ns) ns.length v hv;rcases hF.att v hv with h2|⟨_,_,_,_,_,_,_,h2⟩<;>omega
end
def rtree (ns:List Nd):Bool:=(List.range ns.length).all (fun u=>((ns[u]?.map Nd.items).getD []).all (fun x=>!(mkd (marks ns x) u)))
theorem zpk {ns:List Nd} (hr:Refs ns):rtree ns=true↔∀(u:Nat) (hu:u<ns.length),∀x∈ns[u].items,¬Reach (succ ns) x u:=by
 unfold rtree;rw[List.all_eq_true];constructor
 .intro h u hu x a;have:=h u (List.mem_range.2 hu);rw[List.getElem?_eq_getElem hu,List.all_eq_true]at this;have:=this x a;rw[Bool.not_eq_true']at this;exact(zpj hr (hr _ (List.getElem_mem hu) x (List.mem_append_right _ a))).1 this
 .intro h u hu;have hu:=List.mem_range.1 hu;rw[List.getElem?_eq_getElem hu,List.all_eq_true];intro x a;rw[Bool.not_eq_true'];exact(zpj hr (hr _ (List.getElem_mem hu) x (List.mem_append_right _ a))).2 (h u hu x a)
structure WellF (ns:List Nd) (r:Nat):Prop where
 root:r<ns.length
 refs:Refs ns
 ok:NodesOk ns
 all:∀v,v<ns.length->Reach (succ ns) r v
 one:∀x,x<ns.length->mkd (inKeys ns) x=true->(counts ns r).getD x 0=1
theorem zgc {sclr:Int->Str->Bool} (hs:∀k t,sclr k t=true->0<=k/\k<=8) {is:List Ni} {root:Int} (h:rwell sclr is root=true):∃r:Nat,root=(r:Int)/\WellF (is.map Ni.nd) r/\is.all (rng is.length)=true:=by
 unfold rwell at h;split at h
 .cases h
 .rename_i h2;split at h
  .cases h
  .rename_i h3;rw[Bool.not_eq_false]at h3;have a:inR is.length root=true:=by
    grind
   have c:is.all (rng is.length)=true:=List.all_eq_true.2 (fun x g=>zfd (List.all_eq_true.1 h3 x g));obtain⟨_,d⟩:=za8 c;have e:(is.map Ni.nd).length=is.length:=by simp
   unfold inR at a;rw[Bool.and_eq_true,decide_eq_true_eq,decide_eq_true_eq]at a;have j:root.toNat<(is.map Ni.nd).length:=by rw[e];omega
   have f:∀i,i<(is.map Ni.nd).length->rnode (is.map Ni.nd) root.toNat i=true:=fun i n=>List.all_eq_true.1 h i (List.mem_range.2 (by rw[e]at n;exact n))
   refine⟨root.toNat,by omega,⟨j,d,?_,?_,?_⟩,c⟩
   .intro x g;obtain⟨y,m,rfl⟩:=List.mem_map.1 g;have:=List.all_eq_true.1 h3 y m;rw[zg4 sclr is.length y (List.all_eq_true.1 c y m)]at this;exact zih hs this
   .intro v o;have:=f v o;unfold rnode at this;rw[Bool.and_eq_true]at this;exact(za2 d j v).1 this.1
   .intro x g l;have:=f x g;unfold rnode at this;rw[Bool.and_eq_true,l,Bool.true_and,Bool.not_eq_true']at this;simpa using this.2
section
variable {ns:List Nd} {r:Nat}
theorem WellF.tall (h:WellF ns r):∀k∈allKeys ns,k<ns.length/\Tall' ns ns.length k:=fun k c=>by
 obtain⟨a,b⟩:=zfa h.refs h.root h.all h.one k c;exact⟨a,zo5 ns _ _ b⟩
theorem WellF.keep (h:WellF ns r):∀u,mkd (inKeys ns) u=true->∀v∈succ ns u,mkd (inKeys ns) v=true:=by
 intro u d v e;obtain⟨k,c,a⟩:=(zan h.refs u).1 d;exact(zan h.refs v).2 ⟨k,c,a.trans (.one e)⟩
theorem WellF.key (h:WellF ns r):∀k∈allKeys ns,mkd (inKeys ns) k=true:=fun k a=>(zan h.refs k).2 ⟨k,a,.refl _⟩
theorem WellF.count (h:WellF ns r):∀x,mkd (inKeys ns) x=true->(Gr.refs ns).count x<=1:=by
 intro x e;by_cases hxl:x<ns.length
 .have:=h.one x hxl e;rw[zb5 hxl]at this;split at this<;>omega
 .have:¬x∈Gr.refs ns:=by
   intro d;obtain⟨n,c,a⟩:=List.mem_flatMap.1 d;exact hxl (h.refs n c x a)
  rw[List.count_eq_zero.2 this];omega
theorem zx3 {ns:List Nd} (b:Nat) (hb:∀x∈ns,x.text.length+30<=b):∀k,k<=ns.length->wtS ns (List.range k)<=k*b:=by
 intro k
 induction k with
 |zero=>intro _;simp[wtS]
 |succ k ih=>
  intro hk;have h1:=ih (by omega);have h2:=hb _ (List.getElem_mem (show k<ns.length by omega));have e:wtS ns (List.range (k+1))=wtS ns (List.range k)+wtN ns k:=by unfold wtS;rw[List.range_succ];simp
  have a:wtN ns k=ns[k].text.length+30:=by unfold wtN;rw[List.getElem?_eq_getElem (by omega)];rfl
  rw[e,a,Nat.succ_mul];omega
theorem WellF.plen (h:WellF ns r) (hn:ns.length<=1000) (hb:∀x∈ns,x.text.length<=1000/\x.items.length<=1000) (f i:Nat) (hf:f<=ns.length) (hi:i<ns.length) (hk:mkd (inKeys ns) i=true):(printF ns f i).length<=2000000000:=by
 have h1:=zph h.refs h.ok (fun x a=>⟨by have:=hb x a;omega,by have:=hb x a;omega⟩) h.keep h.count f i hi hk;have c:=zx3 1030 (fun x a=>by have:=hb x a;omega) ns.length (Nat.le_refl _);have h3:f*wtS ns (List.range ns.length)<=1000*(1000*1030):=Nat.mul_le_mul (by omega) (Nat.le_trans c (Nat.mul_le_mul hn (Nat.le_refl _)));omega
theorem WellF.depth (h:WellF ns r):∃F:Nat->Nat,LongR (succ ns) ns.length F/\(Gr.depth ns r).1=(F r:Int)-1/\(Gr.depth ns r).2=rtree ns:=by
 obtain⟨F,d,c,a⟩:=zfb h.refs h.root h.all;refine⟨F,d,c,?_⟩;rw[Bool.eq_iff_iff,a,zpk h.refs,zme h.refs h.root h.all h.one]
end
def few (is:List Ni):Bool:=
 decide (is.length<=40) && (is.all (fun n=>decide (n.text.length<=100/\n.keys.length<=80/\n.items.length<=80)) && (decide ((is.map (fun n=>n.keys.length+n.items.length)).sum<=240) && decide ((is.map (fun n=>n.text.length)).sum<=300)))
theorem zvt {is:List Ni} (h:few is=true):is.length<=40:=by
 unfold few at h;rw[Bool.and_eq_true,decide_eq_true_eq]at h;exact h.1
theorem zvu {is:List Ni} (h:few is=true):∀n∈is,n.text.length<=100/\n.keys.length<=80/\n.items.length<=80:=by
 unfold few at h;rw[Bool.and_eq_true,Bool.and_eq_true]at h;intro n a;exact of_decide_eq_true (List.all_eq_true.1 h.2.1 n a)
def fsum (is:List Ni) (k:Nat):Nat:=((is.take k).map (fun n=>n.keys.length+n.items.length)).sum
def fbyt (is:List Ni) (k:Nat):Nat:=((is.take k).map (fun n=>n.text.length)).sum
theorem zpl {is:List Ni} {k:Nat} (h:k<is.length):fsum is (k+1)=fsum is k+(is[k].keys.length+is[k].items.length):=by
 unfold fsum;rw[List.take_succ_eq_append_getElem h,List.map_append,List.sum_append];rfl
theorem zpm {is:List Ni} {k:Nat} (h:k<is.length):fbyt is (k+1)=fbyt is k+is[k].text.length:=by
 unfold fbyt;rw[List.take_succ_eq_append_getElem h,List.map_append,List.sum_append];rfl
theorem zvv {is:List Ni} (h:¬is.length<=40):few is=false:=by
 unfold few;rw[decide_eq_false h];rfl
theorem zvw {is:List Ni} {k:Nat} (h:k<is.length) (hn:¬(is[k].text.length<=100/\is[k].keys.length<=80/\is[k].items.length<=80)):few is=false:=by
 unfold few;have:is.all (fun n=>decide (n.text.length<=100/\n.keys.length<=80/\n.items.length<=80))=false:=by
  grind
 rw[this];simp
theorem zvx {is:List Ni} {k:Nat} (h:is.length<=k) (h1:is.length<=40) (h2:∀j,j<k->∀(hj:j<is.length),is[j].text.length<=100/\is[j].keys.length<=80/\is[j].items.length<=80):few is=(decide (fsum is k<=240) && decide (fbyt is k<=300)):=by
 unfold few fsum fbyt;rw[List.take_of_length_le h,decide_eq_true h1,Bool.true_and];have:is.all (fun n=>decide (n.text.length<=100/\n.keys.length<=80/\n.items.length<=80))=true:=by
  rw[List.all_eq_true];intro x a;obtain⟨j,hj,rfl⟩:=List.mem_iff_getElem.1 a;exact decide_eq_true (h2 j (by omega) hj)
 rw[this,Bool.true_and]
end Gr
theorem zv3 (A:Option Addr) (c:Nat) (root:Int) (vs:List NV) (is:List Gr.Ni) (hz:Sz is) (w:World) (h:IAt w w.heap.size A vs is):
 Calls prog 4 #[.agg #[.slice A is.length c,.int .i64 root]] w fun e w'=>e=.returned (.bool (Gr.few is))/\Below w.heap.size w w':=by
 have H:=hid h;have HZ:=hid hz;obtain⟨t,m⟩:=ex (w.alloc (.cells #[.slice A is.length c,.int .i64 root] 24))
 have U:Blk t w.heap.size 24 #[.slice A is.length c,.int .i64 root]:=by rw[<-m];exact Blk.new _ _ _
 have L1:Hid (Below w.heap.size w t):=hid (by rw[<-m];exact(Below.refl _ _).alloc (Nat.le_refl _) _);have g0:t.cell? ⟨w.heap.size,0,none⟩=some (.slice A is.length c):=U.cell 0;have L:=hid U;have af:=hz.1;clear h U hz;go_enter func4,ntmps4;go_upto_region 1 with fail;(try rw[m]);clear m;by_cases h40:is.length<=40
 .have I:¬(40:Int)<(is.length:Int):=by omega
  go_upto_region 5 with fail;clear g0 af;go_loopw [3,4,5] (fun s3 s4 s5 wr=>∃i:Nat,i<=is.length/\s5=.int .i64 i/\s3=.int .i64 (fsum is i:Nat)/\s4=.int .i64 (fbyt is i:Nat)/\fsum is i<=160*i/\fbyt is i<=100*i/\Hid (Below t.heap.size t wr/\∀j,j<i->∀(hj:j<is.length),is[j].text.length<=100/\is[j].keys.length<=80/\is[j].items.length<=80)) (fun _ _ s5 _=>is.length-(intOf s5).toNat)
  case atStart=>exact⟨0,by omega,rfl,rfl,rfl,by simp[fsum],by simp[fbyt],hid ⟨Below.refl _ _,fun j hj=>by omega⟩⟩
  case round=>
   obtain⟨i,hi,rfl,rfl,rfl,ae,Z,E⟩:=hrel;have b:Hid (Below w.heap.size w wr):=hid (L1.out.trans (E.out.1.mono L1.out.size));have Y:Hid (Blk wr w.heap.size 24 #[.slice A is.length c,.int .i64 root]):=hid (L.out.below E.out.1 L.out.lt);have g0:wr.cell? ⟨w.heap.size,0,none⟩=some (.slice A is.length c):=Y.out.cell 0;have u:=hid (fun h=>zpl (is:=is) (k:=i) h);have y:=hid (fun h=>zpm (is:=is) (k:=i) h);obtain⟨N,q⟩:=ex (fsum is i)
   obtain⟨O,l⟩:=ex (fbyt is i)
   rw[q]at ae u;rw[l]at Z y;have W:=hid q;have V:=hid l;(try rw[q]);(try rw[l]);clear q l;by_cases hlt:i<is.length
   .have G:(i:Int)<(is.length:Int):=by omega
    have K:is[i]∈is:=List.getElem_mem hlt;obtain⟨P,ac,ab⟩:=HZ.out.2 _ K;have g:=hid (zvw hlt);have r:Hid ((is[i].text.length<=100/\is[i].keys.length<=80/\is[i].items.length<=80)->∀j,j<i+1->∀(hj:j<is.length),is[j].text.length<=100/\is[j].keys.length<=80/\is[j].items.length<=80):=hid (fun h j hj T=>by
     rcases Nat.lt_or_ge j i with h1|h1
     .exact E.out.2 j h1 T
     .obtain rfl:j=i:=by omega
      exact h)
    have C:=hid (u.out hlt);have D:=hid (y.out hlt);obtain⟨ad,ks,ag,rfl,J,c0,c1,c2,c3,c4,r1,r2,r3,r4⟩:=(H.out.below b.out).node hlt;obtain⟨ka,kn,X⟩:=ks;obtain⟨R,aa,ic⟩:=ag;obtain⟨n,hn⟩:=ex (is[i])
    rw[hn]at c0 c1 c2 r2 r4 P ac ab g r C D;obtain rfl:kn=n.keys.length:=r2;obtain rfl:aa=n.items.length:=r4;have hib:i<=40:=by omega
    clear hn K r1 r3 J u y;go_upto_region 8 with fail;obtain⟨v,B⟩:=ex (wr.alloc (.cells #[.int .i64 n.kind,.string ⟨n.text.toArray⟩,.bool n.ord,.slice ka n.keys.length X,.slice R n.items.length ic] 36))
    obtain⟨M,x⟩:=ex wr.heap.size
    have d:Hid (Blk v M 36 #[.int .i64 n.kind,.string ⟨n.text.toArray⟩,.bool n.ord,.slice ka n.keys.length X,.slice R n.items.length ic]/\Below wr.heap.size wr v):=hid (by rw[<-B,<-x];exact⟨Blk.new _ _ _,(Below.refl _ _).alloc (Nat.le_refl _) _⟩);(try rw[B]);(try rw[x]);have s1:v.cell? ⟨M,1,none⟩=some (.string ⟨n.text.toArray⟩):=d.out.1.cell 1;have s3:v.cell? ⟨M,3,none⟩=some (.slice ka n.keys.length X):=d.out.1.cell 3;have s4:v.cell? ⟨M,4,none⟩=some (.slice R n.items.length ic):=d.out.1.cell 4;have o:Hid (Below t.heap.size t v/\Below w.heap.size w v):=hid ⟨E.out.1.trans (d.out.2.mono E.out.1.size),b.out.trans (d.out.2.mono b.out.size)⟩;clear B x c0 c1 c2 c3 c4 g0;have s:(100:Int)<(n.text.length:Int)\/¬(100:Int)<(n.text.length:Int):=by omega
    have f:(80:Int)<(n.keys.length:Int)\/¬(80:Int)<(n.keys.length:Int):=by omega
    have z:(80:Int)<(n.items.length:Int)\/¬(80:Int)<(n.items.length:Int):=by omega
    rcases s with h1|h1
    .have a:Hid (Gr.few is=false):=hid (g.out (by omega));clear f z;go_wp2;go_ret;exact⟨by rw[a.out]<;>rfl,o.out.2⟩
    .rcases f with h2|h2
     .have a:Hid (Gr.few is=false):=hid (g.out (by omega));clear z;go_wp2;go_ret;exact⟨by rw[a.out]<;>rfl,o.out.2⟩
     .rcases z with h3|h3
      .have a:Hid (Gr.few is=false):=hid (g.out (by omega));go_wp2;go_ret;exact⟨by rw[a.out]<;>rfl,o.out.2⟩
      .have F:Hid (fsum is (i+1)<=160*(i+1)/\fbyt is (i+1)<=100*(i+1)):=hid (by rw[C.out,D.out];omega);have S:=hid (r.out (by omega));go_wp2;go_roundw
       case rel=>exact⟨i+1,by omega,by go_num,by rw[C.out];go_num,by rw[D.out];go_num,F.out.1,F.out.2,hid ⟨o.out.1,S.out⟩⟩
       case measure=>simp[intOf];omega
   .have G:¬(i:Int)<(is.length:Int):=by omega
    have Q:Hid (Gr.few is=(decide (N<=240) && decide (O<=300))):=hid (by
     have:=zvx (k:=i) (by omega) h40 E.out.2;rwa[W.out,V.out]at this)
    have s:(N:Int)<=240\/¬(N:Int)<=240:=by omega
    have f:(O:Int)<=300\/¬(O:Int)<=300:=by omega
    rcases s with h1|h1
    .rcases f with h2|h2
     .have a:Hid (Gr.few is=true):=hid (by rw[Q.out,decide_eq_true (by omega),decide_eq_true (by omega)];rfl);go_wp2;go_ret;exact⟨by rw[a.out]<;>rfl,b.out⟩
     .have a:Hid (Gr.few is=false):=hid (by rw[Q.out,decide_eq_false (p:=O<=300) (by omega)];simp);go_wp2;go_ret;exact⟨by rw[a.out]<;>rfl,b.out⟩
    .have a:Hid (Gr.few is=false):=hid (by rw[Q.out,decide_eq_false (p:=N<=240) (by omega)];simp);clear f;go_wp2;go_ret;exact⟨by rw[a.out]<;>rfl,b.out⟩
 .have I:(40:Int)<(is.length:Int):=by omega
  have a:Hid (Gr.few is=false):=hid (zvv h40);go_wp2;go_ret;exact⟨by rw[a.out]<;>rfl,L1.out⟩
namespace Gr
def over (kind:Int) (text:Str) (ns:List Nd) (r:Nat):List Nd:=⟨kind,text,false,[],[r+1]⟩::ns.map (shN 1)
section
variable {kind:Int} {text:Str} {ns:List Nd} {r:Nat}
theorem zau:(over kind text ns r).length=ns.length+1:=by simp[over]
theorem zdm (i:Nat):(over kind text ns r)[i+1]? =(ns[i]?).map (shN 1):=by simp[over]
theorem zcl:succ (over kind text ns r) 0=[r+1]:=by simp[succ,over]
theorem zb7 (i:Nat):succ (over kind text ns r) (i+1)=(succ ns i).map (· +1):=by
 unfold succ;rw[zdm];cases ns[i]? with
 |none=>rfl
 |some x=>simp[shN]
theorem zcz {a b:Nat} (h:Reach (succ ns) a b):Reach (succ (over kind text ns r)) (a+1) (b+1):=by
 induction h with
 |refl=>exact .refl _
 |step h1 _ ih=>exact .step (by rw[zb7];exact List.mem_map.2 ⟨_,h1,rfl⟩) ih
theorem zd2 {a b:Nat} (h:Reach (succ (over kind text ns r)) (a+1) b):∃c,b=c+1/\Reach (succ ns) a c:=by
 have d:∀x y,Reach (succ (over kind text ns r)) x y->∀a,x=a+1->∃c,y=c+1/\Reach (succ ns) a c:=by
  intro x y e
  induction e with
  |refl=>intro a h;exact⟨a,h,.refl _⟩
  |step h1 _ ih=>
   intro a h;subst h;rw[zb7]at h1;obtain⟨y,g,rfl⟩:=List.mem_map.1 h1;obtain⟨c,f,i⟩:=ih y rfl;exact⟨c,f,.step g i⟩
 exact d _ _ h a rfl
theorem zcm (a b:Nat):Reach (succ (over kind text ns r)) (a+1) (b+1)↔Reach (succ ns) a b:=
 ⟨fun h=>by
  obtain⟨c,hc,d⟩:=zd2 h;obtain rfl:b=c:=by omega
  exact d,zcz⟩
theorem zc0 (a:Nat):¬Reach (succ (over kind text ns r)) (a+1) 0:=fun h=>by
 obtain⟨c,hc,_⟩:=zd2 h;omega
theorem zmo (b:Nat):Reach (succ (over kind text ns r)) 0 (b+1)↔Reach (succ ns) r b:=by
 constructor
 .intro h;cases h with
  |step h1 h2=>
   rw[zcl,List.mem_singleton]at h1;subst h1;exact(zcm _ _).1 h2
 .intro h;exact .step (by rw[zcl];exact List.mem_singleton.2 rfl) (zcz h)
theorem zin (h:Refs ns) (hr:r<ns.length):Refs (over kind text ns r):=by
 intro x hx y a;rw[zau];rcases List.mem_cons.1 hx with rfl|hx
 .simp at a;omega
 .obtain⟨z,c,rfl⟩:=List.mem_map.1 hx;have a:y∈z.keys.map (· +1)++z.items.map (· +1):=a;rw[<-List.map_append]at a;obtain⟨u,b,rfl⟩:=List.mem_map.1 a;have:=h z c u b;omega
theorem zps:allKeys (over kind text ns r)=(allKeys ns).map (· +1):=by
 unfold allKeys over;rw[List.flatMap_cons,List.nil_append]
 induction ns with
 |nil=>rfl
 |cons x l ih=>rw[List.map_cons,List.flatMap_cons,List.flatMap_cons,List.map_append,ih];rfl
theorem zju:refs (over kind text ns r)=(r+1)::(refs ns).map (· +1):=by
 unfold refs over;rw[List.flatMap_cons];show(r+1)::(List.flatMap (fun x:Nd=>x.keys++x.items) (ns.map (shN 1)))=_
 congr 1
 induction ns with
 |nil=>rfl
 |cons x l ih=>rw[List.map_cons,List.flatMap_cons,List.flatMap_cons,List.map_append,ih];simp[shN]
theorem zsu (l:List Nat) (x:Nat):(l.map (· +1)).count (x+1)=l.count x:=by
 induction l with
 |nil=>rfl
 |cons y l ih=>simp only[List.map_cons,List.count_cons,ih];congr 1;simp
theorem zv1 (h:Refs ns) (hr:r<ns.length) (x:Nat):mkd (inKeys (over kind text ns r)) x=true↔∃v,x=v+1/\mkd (inKeys ns) v=true:=by
 rw[zan (zin h hr),zps];constructor
 .rintro⟨k,a,g⟩;obtain⟨f,d,rfl⟩:=List.mem_map.1 a;obtain⟨c,rfl,b⟩:=zd2 g;exact⟨c,rfl,(zan h c).2 ⟨f,d,b⟩⟩
 .rintro⟨v,rfl,e⟩;obtain⟨k,a,b⟩:=(zan h v).1 e;exact⟨k+1,List.mem_map.2 ⟨k,a,rfl⟩,zcz b⟩
theorem zmp (v:Nat) (hv:v<ns.length):(counts (over kind text ns r) 0).getD (v+1) 0=(counts ns r).getD v 0:=by
 rw[zb5 (by rw[zau];omega),zb5 hv,zju,List.count_cons,zsu];by_cases h:v=r
 .subst h;simp;omega
 .have:¬(r+1==v+1)=true:=by simp;omega
  rw[if_neg (by omega),if_neg this,if_neg h];omega
theorem WellF.over (h:WellF ns r) (h0:0<=kind/\kind<=11/\kind≠10):WellF (Gr.over kind text ns r) 0 where
 root:=by rw[zau];omega
 refs:=zin h.refs h.root
 ok:=by
  intro x hx;rcases List.mem_cons.1 hx with rfl|hx
  .exact⟨h0.1,h0.2.1,fun e=>absurd e h0.2.2⟩
  .obtain⟨z,g,rfl⟩:=List.mem_map.1 hx;obtain⟨a,b,c⟩:=h.ok z g;exact⟨a,b,fun e=>by simp[shN];exact c e⟩
 all:=by
  intro v d;cases v with
  |zero=>exact .refl _
  |succ v=>rw[zau]at d;exact(zmo v).2 (h.all v (by omega))
 one:=by
  intro x hx f;obtain⟨v,rfl,d⟩:=(zv1 h.refs h.root x).1 f;rw[zau]at hx;rw[zmp v (by omega)];exact h.one v (by omega) d
theorem zmq (hok:NodesOk ns) (f i:Nat):printF (Gr.over kind text ns r) f (i+1)=printF ns f i:=by
 induction f generalizing i with
 |zero=>rfl
 |succ f ih=>
  cases hx:ns[i]? with
  |none=>
   have a:(Gr.over kind text ns r)[i+1]? =none:=by rw[zdm,hx];rfl
   unfold printF;rw[a,hx]
  |some x=>
   have a:(Gr.over kind text ns r)[i+1]? =some (shN 1 x):=by rw[zdm,hx];rfl
   have e:ents (Gr.over kind text ns r) f (shN 1 x)=ents ns f x:=by
    unfold ents shN;rw[List.length_map];apply List.map_congr_left;intro k b;have b:=List.mem_range.1 b;simp only;have d:(x.items.map (· +1)).getD k 0=x.items.getD k 0+1:=by simp[List.getD_eq_getElem?_getD,b]
    rw[d,ih]
    congr 1
    by_cases h10:x.kind=10
    .rw[if_pos h10,if_pos h10];by_cases hkk:k<x.keys.length
     .have c:(x.keys.map (· +1)).getD k 0=x.keys.getD k 0+1:=by simp[List.getD_eq_getElem?_getD,hkk]
      rw[c,ih]
     .have:=(hok x (List.mem_of_getElem? hx)).2.2 h10;omega
    .rw[if_neg h10,if_neg h10]
   rw[zaj a,zaj hx];unfold entS;rw[e];simp only[shN,List.length_map];rfl
theorem zpt:∀f i,Tall' ns f i->Tall' ns (f+1) i:=by
 intro f
 induction f with
 |zero=>intro i h;exact h.elim
 |succ f ih=>intro i h x a;exact ih x (h x a)
theorem zmr (h:WellF ns r) (h0:0<=kind/\kind<=11/\kind≠10):twice (Gr.over kind text ns r) (ns.length+1)=twice ns ns.length:=by
 have g:=WellF.over (text:=text) h h0;have f:=g.tall;rw[zau]at f;have d:∀k∈allKeys ns,TOk ns ns.length k:=fun k c=>⟨(h.tall k c).1,(h.tall k c).2⟩
 rw[zem g.ok g.refs (ns.length+1) (fun k c=>⟨by rw[zau];exact(f k c).1,(f k c).2⟩),zem h.ok h.refs ns.length d];unfold rtwice;have e:∀x∈ns,dupS ((shN 1 x).keys.map (printF (Gr.over kind text ns r) (ns.length+1)))=dupS (x.keys.map (printF ns ns.length)):=by
  intro x a
  congr 1
  unfold shN;simp only[List.map_map];apply List.map_congr_left;intro k c;have b:k∈allKeys ns:=List.mem_flatMap.2 ⟨x,a,c⟩;show printF _ _ (k+1)=_;rw[zmq h.ok];exact zf5 h.ok h.refs _ _ k ⟨(d k b).1,zpt _ _ (d k b).2⟩ (d k b)
 rw[show Gr.over kind text ns r=⟨kind,text,false,[],[r+1]⟩::ns.map (shN 1)from rfl];rw[List.any_cons];show(false || _)=_;rw[Bool.false_or,Bool.eq_iff_iff,List.any_eq_true,List.any_eq_true];constructor
 .rintro⟨z,j,i⟩;obtain⟨x,a,rfl⟩:=List.mem_map.1 j;exact⟨x,a,by rw[<-e x a];exact i⟩
 .rintro⟨x,a,i⟩;exact⟨shN 1 x,List.mem_map.2 ⟨x,a,rfl⟩,by rw[<-i];exact e x a⟩
theorem LongR.unique {sc:Nat->List Nat} {n:Nat} {F G:Nat->Nat} (hsc:∀u,∀x∈sc u,x<n) (hF:LongR sc n F) (hG:LongR sc n G):∀v,v<n->F v=G v:=by
 have b:∀{F G:Nat->Nat},LongR sc n F->LongR sc n G->∀k v,F v<=k->v<n->F v<=G v:=by
  intro F G hF hG k
  induction k with
  |zero=>intro v h _;omega
  |succ k ih=>
   intro v h a;have hp:=zkz sc n v a;rcases hF.att v a with h1|⟨u,hu,h2,h3,x,hx,hn,h4⟩
   .rcases hG.att v a with h5|⟨_,_,_,_,_,_,_,h5⟩<;>omega
   .have h5:=ih x (by omega) (hsc u x hx);have h6:=hG.up v u a hu h2 h3 x hx hn;omega
 intro v a;exact Nat.le_antisymm (b hF hG _ v (Nat.le_refl _) a) (b hG hF _ v (Nat.le_refl _) a)
open Classical in
theorem zpu (v:Nat):wt (succ (Gr.over kind text ns r)) (ns.length+1) (v+1)=wt (succ ns) ns.length v:=by
 unfold wt;rw[List.range_succ_eq_map,List.countP_cons,List.countP_map];have:¬(decide (Reach (succ (Gr.over kind text ns r)) (v+1) 0/\Reach (succ (Gr.over kind text ns r)) 0 (v+1))=true):=by
  rw[decide_eq_true_eq];exact fun h=>zc0 _ h.1
 rw[if_neg this,Nat.add_zero];apply List.countP_congr;intro i _;simp only[Function.comp,decide_eq_true_eq,Nat.succ_eq_add_one,zcm]
open Classical in
theorem zpv:wt (succ (Gr.over kind text ns r)) (ns.length+1) 0=1:=by
 unfold wt;rw[List.range_succ_eq_map,List.countP_cons,List.countP_map];rw[if_pos (by rw[decide_eq_true_eq];exact⟨.refl _,.refl _⟩)];have:List.countP ((fun i=>decide (Reach (succ (Gr.over kind text ns r)) 0 i/\Reach (succ (Gr.over kind text ns r)) i 0)) ∘ Nat.succ) (List.range ns.length)=0:=by
  rw[List.countP_eq_zero];intro i _;simp only[Function.comp,decide_eq_true_eq];exact fun h=>zc0 i h.2
 rw[this]
def upF (r:Nat) (F:Nat->Nat):Nat->Nat
 | 0=>F r+1
 |v+1=>F v
theorem LongR.over {F:Nat->Nat} (_hr:r<ns.length) (hF:LongR (succ ns) ns.length F):LongR (succ (Gr.over kind text ns r)) (ns.length+1) (upF r F):=by
 refine⟨fun v u g e b c x a d=>?_,fun v g=>?_⟩
 .cases v with
  |zero=>
   rw[zpv];cases u with
   |zero=>
    rw[zcl,List.mem_singleton]at a;subst a;show 1+F r<=F r+1;omega
   |succ u=>exact absurd c (zc0 u)
  |succ v=>
   rw[zpu];cases u with
   |zero=>exact absurd b (zc0 v)
   |succ u=>
    rw[zb7]at a;obtain⟨y,f,rfl⟩:=List.mem_map.1 a;rw[zcm]at b c d;exact hF.up v u (by omega) (by omega) b c y f d
 .cases v with
  |zero=>
   right;exact⟨0,by omega,.refl _,.refl _,r+1,by rw[zcl];exact List.mem_singleton.2 rfl,zc0 r,by rw[zpv];show F r+1=1+F r;omega⟩
  |succ v=>
   rw[zpu];rcases hF.att v (by omega)with b|⟨u,e,c,h3,x,a,d,h4⟩
   .exact .inl b
   .exact .inr ⟨u+1,by omega,zcz c,zcz h3,x+1,by rw[zb7];exact List.mem_map.2 ⟨x,a,rfl⟩,by rw[zcm];exact d,h4⟩
theorem zgd (h:WellF ns r) (h0:0<=kind/\kind<=11/\kind≠10):depth (Gr.over kind text ns r) 0=((depth ns r).1+1,(depth ns r).2):=by
 have c:=WellF.over (text:=text) h h0;obtain⟨F,n,l,j⟩:=zfb h.refs h.root h.all;obtain⟨G,f,g,e⟩:=zfb c.refs c.root c.all;rw[zau]at f e;have d:=LongR.unique (fun u x a=>by have:=c.refs.succ u x a;rwa[zau]at this) f (LongR.over (kind:=kind) (text:=text) h.root n) 0 (by omega);have m:(depth (Gr.over kind text ns r) 0).1=(depth ns r).1+1:=by
  rw[g,d,l];show((F r+1:Nat):Int)-1=_;omega
 have i:(depth (Gr.over kind text ns r) 0).2=(depth ns r).2:=by
  rw[Bool.eq_iff_iff,e,j];constructor
  .intro k u d x a b;exact k (u+1) (by omega) (x+1) (by rw[zb7];exact List.mem_map.2 ⟨x,a,rfl⟩) (zcz b)
  .intro k u d x a b;cases u with
   |zero=>
    rw[zcl,List.mem_singleton]at a;subst a;exact zc0 r b
   |succ u=>
    rw[zb7]at a;obtain⟨y,o,rfl⟩:=List.mem_map.1 a;exact k u (by omega) y o ((zcm _ _).1 b)
 rw[<-m,<-i]
theorem zms (sclr:Int->Str->Bool) (d:Nat) (x:Nd):formB sclr (shN d x)=formB sclr x:=by
 have a:∀l:List Nat,(l.map (· +d)).isEmpty=l.isEmpty:=fun l=>by cases l<;>rfl
 unfold formB shN;simp only[List.length_map,a]
theorem zmt {sclr:Int->Str->Bool} (h:WellF ns r) (h0:0<=kind/\kind<=11/\kind≠10) (hf:∀x∈ns,formB sclr x=true) (hz:formB sclr ⟨kind,text,false,[],[r+1]⟩=true) (htw:twice ns ns.length=false):
 checkN sclr (Gr.over kind text ns r) 0=if(depth ns r).1+1>32 then 5 else 0:=by
 have b:=WellF.over (text:=text) h h0;unfold checkN;rw[zgd h h0];rw[if_neg,if_neg,zau,zmr h h0,htw]
 .simp
 .rw[Bool.not_eq_true,List.any_eq_false];intro i a;have a:=List.mem_range.1 a;by_cases hin:mkd (inKeys (Gr.over kind text ns r)) i=true
  .have:=b.one i a hin;rw[this];simp
  .rw[Bool.not_eq_true]at hin;unfold mkd at hin;rw[hin];simp
 .rw[Classical.not_not,List.all_eq_true];intro i a;have a:=List.mem_range.1 a;have c:mkd (marks (Gr.over kind text ns r) 0) i=true:=(za2 b.refs b.root i).2 (b.all i a);unfold mkd at c;rw[c,Bool.true_and];cases i with
  |zero=>exact hz
  |succ i=>
   rw[zau]at a;rw[List.getD_eq_getElem?_getD,zdm,List.getElem?_eq_getElem (by omega)];show formB sclr (shN 1 _)=true;rw[zms];exact hf _ (List.getElem_mem _)
end
end Gr
end Go.Proofs.YtpjmhafmeieloaaGreatDoor

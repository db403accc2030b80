import Derived.Lib.LaidU8T
import Derived.PinnedBridge
import Derived.Lay
import Derived.Deep.DeepWitnessRowRef
import Derived.Test.YtpgmfihonmoliabGreatDoorZ09
open _root_.Go.RowKit.Below renaming refl->K0
open _root_.Go.Proofs.YtpgmfihonmoliabGreatDoor.Blk renaming new->K5
open _root_.Go.Proofs.YtpgmfihonmoliabGreatDoor.Calls renaming grow->Y2
open _root_.Go.Proofs.YtpgmfihonmoliabGreatDoor.GArg renaming p->K9
open _root_.Go.Proofs.YtpgmfihonmoliabGreatDoor.Gr renaming Str->K4,Nd->Q2,succ->X1
open _root_.Go.Proofs.YtpgmfihonmoliabGreatDoor.KB renaming of_below->Y4,refl->Y5
open _root_.Go.Proofs.YtpgmfihonmoliabGreatDoor.KeptT renaming setCell->X2
open _root_.Go.Lib renaming decDigits->Q4,tabData->Y7,acceptData->X3,firstData->X4,VarReads->X6
open _root_.List renaming getElem_mem->K2,take_succ_eq_append_getElem->K3,take_of_length_le->Q0,length_append->Q1,length_cons->Q3,getD_eq_getElem?_getD->Q5,getElem?_eq_getElem->Q7,all_eq_true->Q9,countP_cons->Y3,take_length->Y8,drop_length->Y9,length_set->X0
open _root_.Nat renaming le_refl->K1,le_trans->K6,zero_le->Q6,lt_or_ge->X5
open _root_.Go.Proofs.YtpgmfihonmoliabGreatDoor.OwnRow renaming nil->Y1
open _root_.Go.Proofs.YtpgmfihonmoliabGreatDoor.RowAt renaming lit1->Y6
open _root_.Go.Proofs.YtpgmfihonmoliabGreatDoor.SV renaming nil->Y0
open _root_.Go.Proofs.YtpgmfihonmoliabGreatDoor.UT renaming stays->K7
open _root_.Go.World renaming size_alloc->K8,block_lt_of_cell?->Q8
namespace Go.Proofs.YtpgmfihonmoliabGreatDoor
open Gr
open _root_.Go.Proofs.Tryz
open _root_.Go.Lib (hid)
set_option maxRecDepth 100000
set_option maxHeartbeats 16000000
open Go.RowKit
def zu1 (sclr:Int->K4->Bool) (l:List GArg) (w:World) (e:Ending) (w':World):Prop:=
 Below w.heap.size w w'/\(l.any (fun x=>x.chk sclr != 0)=true->e=.returned (.tuple #[gZero,.int .i64 3]))/\(l.any (fun x=>x.chk sclr != 0)=false->
  (checkG sclr (listN (l.map K9)) 0≠0->e=.returned (.tuple #[gZero,.int .i64 (checkG sclr (listN (l.map K9)) 0:Nat)]))/\
  (checkG sclr (listN (l.map K9)) 0=0->∃A c vs,e=.returned (.tuple #[.agg #[.slice A (listN (l.map K9)).length c,.int .i64 0],.int .i64 0])/\GAt w' w'.heap.size A vs (listN (l.map K9))))
def ArgsOk (sclr:Int->K4->Bool) (w:World) (l:List GArg):Prop:=∀x∈l,ChkOk w x.v (x.chk sclr)
theorem zk2 {α:Type} (f:α->Bool) (l:List α) (k:Nat) (hk:k<l.length) (h:f l[k]=true):l.any f=true:=List.any_eq_true.2 ⟨_,K2 hk,h⟩
theorem zu2 (T:World->Prop) (hT:Stays T) (sclr:Int->K4->Bool) (A:Option Addr) (c:Nat) (l:List GArg) (hl:l.length<=100000) (hks:∀x∈l,NH (x.is.map Gr.Ni.nd)) (hsc:∀x∈l,ScalsOk T sclr (x.is.map Gr.Ni.nd)) (w:World) (hTw:T w) (h:GsAt w w.heap.size A l) (hck:ArgsOk sclr w l)
 (hck2:l.any (fun x=>x.chk sclr != 0)=false->∀W A c vs,T W->GAt W W.heap.size A vs (listN (l.map K9))->ChkOk W (.agg #[.slice A (listN (l.map K9)).length c,.int .i64 0]) (checkG sclr (listN (l.map K9)) 0)):
 Calls prog 11 #[.slice A l.length c] w (zu1 sclr l w):=by
 obtain⟨w1,ah⟩:=ex (w.alloc (.cells #[.slice none 0 0,.int .i64 0] 24))
 obtain⟨d,y⟩:=ex w.heap.size
 have ar:w1.heap.size=d+1:=by rw[<-ah,<-y];simp
 have l1:Below d w w1:=by rw[<-ah,<-y];exact(K0 _ _).alloc (K1 _) _
 have b1:Blk w1 d 24 #[.slice none 0 0,.int .i64 0]:=by rw[<-ah,<-y];exact K5 _ _ _
 obtain⟨E,Y⟩:=ex (w1.alloc (.cells #[.int .i64 9,.string ⟨#[]⟩,.bool false,.slice none 0 0,.slice none 0 0] 37))
 have l2:Below (d+1) w1 E:=by rw[<-Y];exact(K0 _ _).alloc (by omega) _
 have b2:Blk E (d+1) 37 #[.int .i64 9,.string ⟨(([]:K4)).toArray⟩,.bool false,.slice none 0 0,.slice none 0 0]:=by rw[<-Y,<-ar];exact K5 _ _ _
 have bh:=Tab.one (B:=d+1) b2 (K1 _);have ap:Below d w E:=l1.trans (l2.mono (by omega));have bC:=hid bh;have aT:=hid ap;have be:Hid (GsAt E d A l):=hid (by have:=h.below (by rw[y];exact ap);rwa[y]at this);have bx:Hid (ArgsOk sclr E l):=hid (fun x Q=>(hck x Q).later (by rw[y];exact ap));have J:Hid (Blk E d 24 #[.slice none 0 0,.int .i64 0]):=hid (b1.below l2 (by omega));have bD:Hid (∀W,Below d w W->T W):=hid (fun W hW=>hT _ _ hTw (by rw[y];exact hW));have an:Hid (E.heap.size=d+2):=hid (by rw[<-Y];simp[ar]);have aF:=hid y;have bp:=hid hks;have HSC:=hid hsc;have br:=hid hck2;clear hTw h hck hck2 hks hsc l1 l2 b1 b2 bh ap;go_enter func11,ntmps11;go_upto_region 1 with fail;(try rw[ah]);(try rw[y]);go_upto_region 2 with fail;(try rw[Y]);(try rw[ar]);clear ah y Y ar;go_upto_region 3 with fail;go_loopw [14] (fun s14 wr=>∃(j:Nat),j<=l.length/\s14=.int .i64 j/\Hid ((l.take j).any (fun x=>x.chk sclr != 0)=false/\Below E.heap.size E wr)) (fun s14 _=>l.length-(intOf s14).toNat)
 case atStart=>exact⟨0,by omega,rfl,hid ⟨rfl,K0 _ _⟩⟩
 case round=>
  obtain⟨j,hj,rfl,HW⟩:=hrel;obtain⟨wq,bo⟩:∃wq,wq=wr:=⟨_,rfl⟩
  subst bo;have aJ:=J.out.below HW.out.2 J.out.lt;have af:=hid aJ;by_cases hlt:j<l.length
  .have N:(j:Int)<(l.length:Int):=by omega
   obtain⟨ad,rfl,aX,a0,a1⟩:=zv6 (be.out.below (HW.out.2.mono (by have:=an.out;omega))).row hlt;obtain⟨x,Q⟩:=ex (l[j])
   have O:x∈l:=by rw[<-Q];exact K2 hlt
   have a7:Hid ((l.take (j+1)).any (fun x=>x.chk sclr != 0)=((l.take j).any (fun x=>x.chk sclr != 0) || x.chk sclr != 0)):=hid (by rw[K3 hlt,List.any_append,Q];simp);have ax:Hid (x.chk sclr≠0->l.any (fun x=>x.chk sclr != 0)=true):=hid (fun h=>zk2 _ l j hlt (by rw[Q];simpa using h));rw[Q]at a0 a1;obtain⟨ck,hck⟩:=ex (x.chk sclr)
   have bz:Hid (ChkOk wq (.agg #[.slice x.a x.is.length x.c,.int .i64 x.root]) ck):=hid (by rw[<-hck];exact(bx.out x O).later HW.out.2);rw[hck]at a7 ax;clear Q hck aJ;obtain⟨w6,D⟩:=ex (wq.alloc (.cells #[.slice x.a x.is.length x.c,.int .i64 x.root] 24))
   obtain⟨nb,f⟩:=ex wq.heap.size
   have l6:Below nb wq w6:=by rw[<-D,<-f];exact(K0 _ _).alloc (K1 _) _
   have b6:Blk w6 nb 24 #[.slice x.a x.is.length x.c,.int .i64 x.root]:=by rw[<-D,<-f];exact K5 _ _ _
   obtain⟨c0,F⟩:=cells2 b6;have az:E.heap.size<=nb:=by rw[<-f];exact HW.out.2.size
   have aj:Hid (Below E.heap.size E w6):=hid (HW.out.2.trans (l6.mono az));have bq:Hid (ChkOk w6 (.agg #[.slice x.a x.is.length x.c,.int .i64 x.root]) ck):=hid (bz.out.later (by rw[f];exact l6));have HB6:Hid (Blk w6 d 24 #[.slice none 0 0,.int .i64 0]):=hid (J.out.below aj.out J.out.lt);clear l6 b6 az;go_upto_region 5 with fail;(try rw[D]);(try rw[f]);clear D f a0 a1;go_wp2_with fail;refine(bq.out w6 (K0 _ _)).mono ?_;rintro e R ⟨rfl,u⟩;have aB:=aj.out.size;have V:=aj.out.trans (u.mono aB);have Z:=hid V;have z:=J.out.below V J.out.lt;have U:=hid z;obtain⟨d0,d1⟩:=cells2 z;have df:∀i,R.frozen? ⟨d,i,none⟩=false:=z.frozen;clear u V z aB c0 F;by_cases h0:ck=0
   .subst h0;go_wp2;go_roundw
    case rel=>exact⟨j+1,by omega,by go_num,hid ⟨by rw[a7.out,HW.out.1];rfl,Z.out⟩⟩
    case measure=>simp[intOf];omega
   .have bF:((ck:Int)==0)=false:=by rw[qqq];omega
    have bt:=hid (ax.out h0);go_wp2_with fail;refine bodyPost_ret (v:=.tuple #[gZero,.int .i64 3]) (by rw[results_cell_tmp rfl];go_simp;rfl) rfl (And.intro ?_ (And.intro (fun _=>rfl) (fun L=>?_)))
    .rw[aF.out];exact((aT.out.trans (Z.out.mono (by have:=an.out;omega))).setCell (by simp) _).setCell (by simp) _
    .rw[bt.out]at L;cases L
  .have N:¬(j:Int)<(l.length:Int):=by omega
   have K:Hid (l.any (fun x=>x.chk sclr != 0)=false):=hid (by have:=HW.out.1;rwa[Q0 (by omega)]at this);have aI:Hid (Tab (d+1) wq (.slice (some ⟨d+1,0,none⟩) 1 1) [⟨9,[],false,Y0,Y0⟩] [⟨9,[],false,[],[]⟩]/\Below (d+1) E wq):=hid ⟨bC.out.later HW.out.2,HW.out.2.mono (by have:=an.out;omega)⟩;clear aJ HW af;go_upto_region 9 with fail;go_loopw [4,25] (fun s4 s25 wr=>∃(j:Nat) (A1:Option Addr) (n1 F:Nat) (vs1:List NV),j<=l.length/\s25=.int .i64 j/\s4=.slice A1 n1 F/\Hid (Tab (d+1) wr (.slice A1 n1 F) vs1 (listN ((l.take j).map K9))/\Below (d+1) E wr/\(listN ((l.take j).map K9)).length<=1+j*4096/\0<(listN ((l.take j).map K9)).length/\∀m,(listN ((l.take j).map K9)).head?=some m->m.items.length<=j)) (fun _ s25 _=>l.length-(intOf s25).toNat)
   case atStart=>exact⟨0,_,_,_,_,by omega,rfl,rfl,hid ⟨aI.out.1,aI.out.2,by simp[listN],by simp[listN],by simp[listN]⟩⟩
   case round=>
    clear hlt N hj;clear aI;obtain⟨j,A1,n1,F,vs1,hj,rfl,rfl,M⟩:=hrel;obtain⟨wp,bl⟩:∃wp,wp=wr:=⟨_,rfl⟩
    subst bl;have a9:Below d w wp:=aT.out.trans (M.out.2.1.mono (by omega));have aQ:=hid a9;have af:=hid (J.out.below M.out.2.1 (by omega));clear a9;by_cases hlt:j<l.length
    .have N:(j:Int)<(l.length:Int):=by omega
     have a4:=hid (be.out.below (M.out.2.1.mono (by omega)));obtain⟨ad,rfl,aX,a0,a1⟩:=zv6 a4.out.row hlt;obtain⟨x,Q⟩:=ex (l[j])
     have O:x∈l:=by rw[<-Q];exact K2 hlt
     rw[Q]at a0 a1;have aA:x.chk sclr=0:=by
      have:=K.out;rw[List.any_eq_false]at this;have:=this x O;simpa using this
     obtain⟨bm,bA,aY⟩:=zzo aA;obtain⟨r,hr,bG,bk,aE⟩:=zzp aY;rw[hr]at a1;obtain⟨o,s⟩:=ex (listN ((l.take j).map K9))
     obtain⟨gs,ai⟩:=ex (x.is.map Gr.Ni.nd)
     have bj:x.is.length=gs.length:=by rw[<-ai];simp
     have ac:Hid (listN ((l.take (j+1)).map K9)=push0 (r+o.length) (o++gs.map (shN o.length))):=hid (by
      rw[K3 hlt,Q,List.map_append];unfold listN at s ⊢;rw[List.foldl_append,s];show lstep o x.p=_;unfold lstep K9;rw[ai,hr,Int.toNat_natCast])
     have al:=(a4.out.each x O).toG bk;rw[ai]at al aE;have aK:=bp.out x O;rw[ai]at aK;rw[s]at M;rw[bj]at a0;have a5:=M.out.2.2.1;have aV:=M.out.2.2.2.1;have bv:=hid M.out.2.2.2.2;obtain⟨w6,D⟩:=ex (wp.alloc (.cells #[.slice x.a gs.length x.c,.int .i64 r] 24))
     obtain⟨nb,f⟩:=ex wp.heap.size
     have l6:Below nb wp w6:=by rw[<-D,<-f];exact(K0 _ _).alloc (K1 _) _
     have b6:Blk w6 nb 24 #[.slice x.a gs.length x.c,.int .i64 r]:=by rw[<-D,<-f];exact K5 _ _ _
     obtain⟨z0,z1⟩:=cells2 b6;have aP:d+2<=nb:=by rw[<-f];have:=an.out;have:=M.out.2.1.size;omega
     have aW:=zcl (d+1) x.a x.c r x.vs gs (.slice A1 n1 F) vs1 o (by omega) (by omega) aK aE (by omega) w6 ((al.below (l6.mono (by omega))).more (by omega)) (M.out.1.later (by rw[f];exact l6)) (by have:=b6.lt;omega);have bs:=hid aW;have aj:=hid (l6.mono (show d+1<=nb by omega));have P:Hid (o.length<=1+j*4096/\gs.length<=4096/\0<o.length/\d+2<=w6.heap.size):=hid ⟨a5,by omega,aV,by have:=b6.lt;omega⟩;clear l6 b6 aW al aK aE bm bA aY bG bk aA bj ai s Q O hr aP a5 aV;go_upto_region 12 with fail;(try rw[D]);(try rw[f]);clear D f a0 a1;go_wp2_with fail;refine bs.out.mono ?_;rintro e R ⟨v7,am,rfl,H,u,_⟩;have ag:am≠[]:=by
      intro e;have:=H.rows.len;rw[e]at this;have:=P.out.2.2.1;simp at *;omega
     obtain⟨g,a3,rest,aU,X,aa,a6,_⟩:=H.row.row ag;obtain⟨nn,ao⟩:=ex am.length
     rw[ao]at aU X;subst aU;obtain⟨I,vl,rfl⟩:∃I vl,am=I::vl:=by cases am with
      |nil=>exact absurd rfl ag
      |cons a b=>exact⟨a,b,rfl⟩
     have C:=H.rows.len;obtain⟨m,nl,ak⟩:∃m nl,o++gs.map (shN o.length)=m::nl:=by
      cases h:o++gs.map (shN o.length)with
      |nil=>rw[h]at C;cases C
      |cons a b=>exact⟨a,b,rfl⟩
     have hnn0:0<nn:=by rw[<-ao];simp
     have hnn0I:(0:Int)<(nn:Int):=by omega
     have HNN:Hid (nn=o.length+gs.length):=hid (by rw[<-ao,C];simp);rw[ak]at H;have aO:=hid ak;have au:=hid H;have bg:=hid aa;have HBG:=hid a6;have aq:=hid u;have HCAP:=hid X;have k4:R.cell? ⟨g,4,none⟩=some (.slice I.i.a I.i.n I.i.c):=aa.cell 4;have bb:OwnRow intL R (d+1) 3 (.slice I.i.a I.i.n I.i.c) m.items:=H.rows.own 0 true;have bd:=hid bb;have av:Hid (m.items.length<=j):=hid (bv.out m (by
      have h2:=aO.out;cases s:o with
      |nil=>have:=P.out.2.2.1;rw[s]at this;simp at this
      |cons a b=>rw[s]at h2;simp at h2;simp[h2.1]))
     obtain⟨k,hk⟩:=ex (r+o.length)
     have a8:(r:Int)+(o.length:Int)=(k:Int):=by omega
     rw[hk]at ac;rw[a8];clear H aa a6 u ak C ag bb X ao hk a8 z0 z1;go_upto_region 13 with fail;go_wp2_with (at_builtin;go_must (refine zab _ rfl (.tmp 39) (.tmp 41) 35 3 8 rfl intT (d+1) (.slice I.i.a I.i.n I.i.c) m.items rfl (bd.out.alloc _) _ _ 1 [k] rfl (Y6 _ _ rfl _ ?_) ?_ ?_ ?_))
     any_goals (first|rfl| (have:=av.out;have:=aq.out.size;have:=P.out.2.2.2;simp;omega))
     intro v8 w8 S hg bc;obtain⟨A8,c8,a2,_⟩:=S.form;obtain⟨q,hq⟩:=ex ((m.items++[k]).length)
     rw[hq]at a2;subst a2;clear hq;obtain⟨i,hi,aM,bB,aD⟩:=(au.out.later ((K0 R.heap.size R).alloc (K1 _) _)).push S hg (by rw[K8];exact bc);have ba:KeptT 37 R w8:=(KeptT.alloc _ _ _).trans (KeptT.grown hg (bd.out.alloc _) (by decide));have aL:=ba _ _ bg.out;have k40:w8.cell? ⟨g,4,none⟩=some (.slice I.i.a I.i.n I.i.c):=aL.cell 4;have k4f:∀i,w8.frozen? ⟨g,i,none⟩=false:=aL.frozen;obtain⟨w9,aH⟩:=ex (w8.setCell ⟨g,4,none⟩ (.slice A8 q c8))
     rw[aH]at aM aD;have aC:=aD (by rw[K8];have:=aq.out.size;have:=P.out.2.2.2;omega);have aw:Below (d+1) E w9:=((((M.out.2.1.trans aj.out).trans aq.out).alloc (by have:=aq.out.size;have:=P.out.2.2.2;omega) _).trans aC)
     have bn:Hid (Tab (d+1) w9 (.slice (some ⟨g,0,none⟩) nn a3) ({I with i:=i}::vl) (listN ((l.take (j+1)).map K9))/\Below (d+1) E w9/\(listN ((l.take (j+1)).map K9)).length<=1+(j+1)*4096/\0<(listN ((l.take (j+1)).map K9)).length/\∀m,(listN ((l.take (j+1)).map K9)).head?=some m->m.items.length<=j+1):=hid (by
      rw[ac.out,aO.out];have ak:=congrArg List.length aO.out;simp only[Q1,List.length_map,Q3]at ak;have h1:=P.out;refine⟨aM,aw,?_,?_,?_⟩
      .simp only[push0,Q3];omega
      .simp[push0]
      .intro m' aS;simp[push0]at aS;subst aS;simp;exact av.out)
     clear S hg bc hi aM bB aD ba aL aC aw k4;go_wp2_with fail;(try rw[aH]);(try clear aH);go_roundw
     case rel=>exact⟨j+1,some ⟨g,0,none⟩,nn,a3,_,by omega,by go_num,rfl,bn⟩
     case measure=>simp[intOf];omega
    .have N:¬(j:Int)<(l.length:Int):=by omega
     have bE:j=l.length:=by omega
     have bf:l.take j=l:=Q0 (by omega);rw[bf]at M;obtain⟨o,s⟩:=ex (listN (l.map K9))
     rw[s]at M;obtain⟨A9,c9,aG,ab⟩:=M.out.1.at_;injection aG with e1 e2 e3
     subst e1 e2 e3;obtain⟨ck,hck⟩:=ex (checkG sclr o 0)
     have bi:=hid (br.out K.out);rw[s,hck]at bi;have G:Hid (listN (l.map K9)=o/\checkG sclr o 0=ck):=hid ⟨s,hck⟩;have aR:ChkOk wp (.agg #[.slice A1 o.length F,.int .i64 0]) ck:=bi.out wp A1 F vs1 (bD.out wp aQ.out) ab;have aN:=zf0 A1 o.length F 0 ck wp aR;unfold gZero at aN;have bw:=hid aN;have HG9:=hid ab;clear bE bf s hck aR aN ab;go_upto_region 15 with fail;go_wp2_with fail;refine bw.out.mono ?_;rintro e R ⟨rfl,u⟩;have z:=af.out.below u af.out.lt;have ay:=aQ.out.trans (u.mono (by have:=af.out.lt;omega));have Z:=hid ay;have U:=hid z;have au:=hid (M.out.1.later u);obtain⟨d0,d1⟩:=cells2 z;have df:∀i,R.frozen? ⟨d,i,none⟩=false:=z.frozen;clear u z ay;by_cases h0:ck=0
     .subst h0;go_wp2_with fail;have aZ:∀t,t≠24->KeptT t R ((R.setCell ⟨d,0,none⟩ (.slice A1 o.length F)).setCell ⟨d,1,none⟩ (.int .i64 0)):=fun t ht=>(X2 (p:=⟨d,0,none⟩) U.out ht _).trans (X2 (p:=⟨d,1,none⟩) (U.out.set_ 0 _) ht _)
      have ae:=(U.out.set_ 0 (.slice A1 o.length F)).set_ 1 (.int .i64 0);have e0:=ae.cell 0;have e1:=ae.cell 1;have bu:Tab (d+1) ((R.setCell ⟨d,0,none⟩ (.slice A1 o.length F)).setCell ⟨d,1,none⟩ (.int .i64 0)) (.slice A1 o.length F) vs1 o:=⟨au.out.row.kept (aZ _ (by decide)),au.out.rows.kept (aZ _ (by decide))⟩
      obtain⟨A9,c9,aG,ab⟩:=bu.at_;injection aG with f1 f2 f3
      subst f1 f3;refine bodyPost_ret (v:=.tuple #[.agg #[.slice A1 o.length F,.int .i64 0],.int .i64 0]) (by rw[results_cell_tmp rfl];go_simp) rfl (And.intro ?_ (And.intro (fun L=>?_) (fun _=>And.intro (fun L=>?_) (fun _=>?_))))
      .rw[aF.out];exact(Z.out.setCell (by simp) _).setCell (by simp) _
      .rw[K.out]at L;cases L
      .rw[G.out.1,G.out.2]at L;exact absurd rfl L
      .rw[G.out.1];exact⟨A1,F,vs1,rfl,ab⟩
     .have bF:((ck:Int)==0)=false:=by rw[qqq];omega
      go_wp2_with fail;have ae:=(U.out.set_ 0 (.slice none 0 0)).set_ 1 (.int .i64 0);have e0:=ae.cell 0;have e1:=ae.cell 1;refine bodyPost_ret (v:=.tuple #[gZero,.int .i64 ck]) (by rw[results_cell_tmp rfl];go_simp;rfl) rfl (And.intro ?_ (And.intro (fun L=>?_) (fun _=>And.intro (fun _=>?_) (fun L=>?_))))
      .rw[aF.out];exact(Z.out.setCell (by simp) _).setCell (by simp) _
      .rw[K.out]at L;cases L
      .rw[G.out.1,G.out.2]
      .rw[G.out.1,G.out.2]at L;exact absurd L h0
def sclU (kind:Int) (text:K4):Bool:=if kind=0 then text.isEmpty else if kind=2 then intB text else if kind=5 then utfB text else false
def KU (ns:List Q2):Prop:=∀x∈ns,x.kind=0\/x.kind=2\/x.kind=5\/x.kind=9\/x.kind=10\/x.kind=11
theorem scalsU (ns:List Q2) (hk:KU ns) (hn:NH ns):ScalsOk UT sclU ns:=by
 intro x d e b a _ _ _;have c:=(hn x d).2.2;rcases hk x d with h|h|h|h|h|h
 .rw[h];exact zix x.text
 .rw[h];exact zeu x.text c
 .rw[h];exact zff x.text c
 .exact absurd h e
 .exact absurd h b
 .exact absurd h a
def nOne:Q2:=⟨2,[49],false,[],[]⟩
def nA:Q2:=⟨5,[97],false,[],[]⟩
def nsL:List Q2:=[⟨9,[],false,[],[1,2]⟩,nOne,nA]
def nsLoop:List Q2:=[⟨9,[],false,[],[0]⟩]
theorem zsg:checkG sclU nsL 0=0:=by decide+kernel
theorem zsh:checkG sclU nsLoop 0=0:=by decide+kernel
theorem zn9:depth nsLoop 0=(0,false):=by decide+kernel
theorem zx9:intB [49]=true:=by decide+kernel
theorem zya:intB [48,49]=false:=by decide+kernel
theorem z0b:utfB [97]=true:=by decide+kernel
theorem zyb:listN [([nOne.ni],0),([nA.ni],0)]=nsL:=by rfl
theorem zu3:checkI sclU [nOne.ni] 0=0:=by decide+kernel
theorem zzq:checkI sclU [nA.ni] 0=0:=by decide+kernel
theorem zci (ns:List Q2) (h:(ns.all fun n=>decide (n.keys.length<=1000/\n.items.length<=1000/\n.text.length<=1000))=true):NH ns:=by
 intro n a;have:=Q9.1 h n a;simp at this;omega
theorem zbb (ns:List Q2) (h:(ns.all fun n=>(n.keys++n.items).all fun r=>decide (r<ns.length))=true):Refs ns:=by
 intro n b r a;have:=Q9.1 (Q9.1 h n b) r a;simpa using this
theorem zb1 (ns:List Q2) (h:(ns.all fun n=>n.kind==0 || n.kind==2 || n.kind==5 || n.kind==9 || n.kind==10 || n.kind==11)=true):KU ns:=by
 intro n a;have:=Q9.1 h n a;simp at this;omega
theorem zcc (A:Option Addr) (c:Nat) (vs:List NV) (ns:List Q2) (w:World) (hUT:UT w) (h1:NH ns) (h2:KU ns) (h3:Refs ns) (h4:0<ns.length) (h5:ns.length<=1073741823) (h:GAt w w.heap.size A vs ns):ChkOk w (.agg #[.slice A ns.length c,.int .i64 0]) (checkG sclU ns 0):=
 fun W a=>zse UT K7 sclU A c 0 vs ns h1 (scalsU ns h2 h1) h5 h3 h4 W (K7 _ _ hUT a) ((h.below a).more a.size)
theorem zu4 (w:World) (hUT:UT w):ChkOk w gZero 3:=by
 intro W b;have:=zfd UT K7 sclU none 0 0 [] [] (by simp[NH]) (by simp[ScalsOk]) (by simp) W (K7 _ _ hUT b) ⟨?_,rfl,fun j h=>by simp at h,fun j h=>by simp at h⟩
 .exact this
 .exact(Y1 (L:=nodeL) (w:=W) (base:=0) (E:=37)).form.elim (fun A h=>by obtain⟨c,a,d⟩:=h;injection a with e1;subst e1;exact d)
theorem zhz {w:World} {g:Nat} {kind:Int} {text:K4} (h:Blk w g 37 #[.int .i64 kind,.string ⟨text.toArray⟩,.bool false,.slice none 0 0,.slice none 0 0]):GAt w w.heap.size (some ⟨g,0,none⟩) [⟨kind,text,false,Y0,Y0⟩] [⟨kind,text,false,[],[]⟩]:=by
 obtain⟨A,c,a,b⟩:=(Tab.one (B:=0) h (Q6 _)).at_;injection a with e1 e2 e3
 subst e1;exact b
def argOf (g:Nat) (kind:Int) (text:K4):GArg:=⟨some ⟨g,0,none⟩,1,0,[⟨kind,text,false,Y0,Y0⟩],[(⟨kind,text,false,[],[]⟩:Q2).ni]⟩
open Go.RowKit
theorem zu5 (A:Option Addr) (c g1 g2:Nat) (w:World) (hUT:UT w) (h1:Blk w g1 37 #[.int .i64 2,.string ⟨([49]:K4).toArray⟩,.bool false,.slice none 0 0,.slice none 0 0]) (h2:Blk w g2 37 #[.int .i64 5,.string ⟨([97]:K4).toArray⟩,.bool false,.slice none 0 0,.slice none 0 0])
 (hrow:RowAt argL w w.heap.size A [argOf g1 2 [49],argOf g2 5 [97]]):
 Calls Tryz.prog 11 #[.slice A 2 c] w fun e w'=>Below w.heap.size w w'/\∃A3 c3 vs,e=.returned (.tuple #[.agg #[.slice A3 3 c3,.int .i64 0],.int .i64 0])/\GAt w' w'.heap.size A3 vs nsL:=by
 have l:GArg.chk sclU (argOf g1 2 [49])=0:=zu3;have m:GArg.chk sclU (argOf g2 5 [97])=0:=zzq;have f:NH [nOne]:=zci _ (by decide);have d:NH [nA]:=zci _ (by decide);have s:=(zhz h1).toI;have o:=(zhz h2).toI;have a:listN ([argOf g1 2 [49],argOf g2 5 [97]].map K9)=nsL:=zyb;have j:NH nsL:=zci _ (by decide);have g:[argOf g1 2 [49],argOf g2 5 [97]].any (fun x=>x.chk sclU != 0)=false:=by simp[l,m]
 have h:=zu2 UT K7 sclU A c [argOf g1 2 [49],argOf g2 5 [97]] (by simp)
  (by
    intro x b;simp at b;rcases b with rfl|rfl
    .exact f
    .exact d)
  (by
    intro x b;simp at b;rcases b with rfl|rfl
    .exact scalsU [nOne] (zb1 _ (by decide)) f
    .exact scalsU [nA] (zb1 _ (by decide)) d)
  w hUT ⟨hrow,by intro x b;simp at b;exact b.elim (fun e=>e▸s) (fun e=>e▸o)⟩
  (by
    intro x b;simp at b;rcases b with rfl|rfl
    .rw[l];exact zcc _ _ _ [nOne] w hUT f (zb1 _ (by decide)) (zbb _ (by decide)) (by decide) (by decide) (zhz h1)
    .rw[m];exact zcc _ _ _ [nA] w hUT d (zb1 _ (by decide)) (zbb _ (by decide)) (by decide) (by decide) (zhz h2))
  (by
    intro _ W A c vs q k;rw[a]at k ⊢;exact zcc _ _ _ nsL W q j (zb1 _ (by decide)) (zbb _ (by decide)) (by decide) (by decide) k)
 refine h.mono ?_;rintro e w' ⟨r,_,n⟩;refine⟨r,?_⟩;have i:=(n g).2;rw[a]at i;exact i zsg
theorem zu6 {w:World} {g gi:Nat} (h:Blk w g 37 #[.int .i64 9,.string ⟨#[]⟩,.bool false,.slice none 0 0,.slice (some ⟨gi,0,none⟩) 1 1]) (hi:Blk w gi 3 #[.int .i64 0]):∃vs,GAt w w.heap.size (some ⟨g,0,none⟩) vs nsLoop:=by
 have f:OwnRow intL w 0 3 (.slice (some ⟨gi,0,none⟩) 1 1) [0]:=zb8 (l:=[0]) hi (Q6 _) rfl (by decide);have d:=(Rows.nil 0 w).snoc ⟨9,[],false,Y0,⟨some ⟨gi,0,none⟩,1,1⟩⟩ ⟨9,[],false,[],[0]⟩ ⟨rfl,rfl,rfl⟩ Y1 f (fun g h=>by simp[Y0,SV.v,Value.ownBlock]at h) (fun j b g h=>by simp[ints,Y0,SV.v,Value.ownBlock]at h);have e:Tab 0 w (.slice (some ⟨g,0,none⟩) 1 1) [⟨9,[],false,Y0,⟨some ⟨gi,0,none⟩,1,1⟩⟩] nsLoop:=⟨⟨nodeL.all_len _,.inr ⟨g,1,_,rfl,Q6 _,h,K1 _,by decide,rfl,rfl⟩⟩,d⟩
 obtain⟨A,c,i,a⟩:=e.at_;injection i with e1 e2 e3
 subst e1;exact⟨_,a⟩
theorem zu7 {w:World} {A:Option Addr} {c:Nat} {vs:List NV} (h:GAt w w.heap.size A vs nsLoop):DepOk w (.agg #[.slice A 1 c,.int .i64 0]) (0,false):=by
 intro W a;have:=zii A c 0 vs nsLoop (zbb _ (by decide)) (by decide) (by intro n e;have:=zci nsLoop (by decide) n e;exact⟨this.1,this.2.1⟩) (by decide)
  (by intro v b;have d:v=0:=by simp[nsLoop]at b;omega
      subst d;exact .refl _) W ((h.below a).more a.size)
 rw[zn9]at this;exact this
theorem zsi (w:World) (hUT:UT w):Calls prog 5 #[] w fun e w'=>e=.returned (.bool true)/\Below w.heap.size w w':=by
 have aF:Hid (∀W,UT W->Calls prog 10 #[.int .i64 2,.string ⟨([49]:K4).toArray⟩] W fun e w'=>Below W.heap.size W w'/\∃g,W.heap.size<=g/\e=.returned (.tuple #[.agg #[.slice (some ⟨g,0,none⟩) 1 1,.int .i64 0],.int .i64 0])/\Blk w' g 37 #[.int .i64 2,.string ⟨([49]:K4).toArray⟩,.bool false,.slice none 0 0,.slice none 0 0]):=hid (fun W hW=>(zec UT K7 2 [49] true (by decide) (by decide) (by rw[<-zx9];exact zeu [49] (by decide)) W hW).mono (by
  rintro e w' ⟨hb,_,h⟩;exact⟨hb,h rfl⟩))
 have aq:Hid (∀W,UT W->Calls prog 10 #[.int .i64 5,.string ⟨([97]:K4).toArray⟩] W fun e w'=>Below W.heap.size W w'/\∃g,W.heap.size<=g/\e=.returned (.tuple #[.agg #[.slice (some ⟨g,0,none⟩) 1 1,.int .i64 0],.int .i64 0])/\Blk w' g 37 #[.int .i64 5,.string ⟨([97]:K4).toArray⟩,.bool false,.slice none 0 0,.slice none 0 0]):=hid (fun W hW=>(zec UT K7 5 [97] true (by decide) (by decide) (by rw[<-z0b];exact zff [97] (by decide)) W hW).mono (by
  rintro e w' ⟨hb,_,h⟩;exact⟨hb,h rfl⟩))
 have aw:Hid (∀W,UT W->Calls prog 10 #[.int .i64 2,.string ⟨([48,49]:K4).toArray⟩] W fun e w'=>Below W.heap.size W w'/\e=.returned (.tuple #[.agg #[.slice none 0 0,.int .i64 0],.int .i64 3])):=hid (fun W hW=>(zec UT K7 2 [48,49] false (by decide) (by decide) (by rw[<-zya];exact zeu [48,49] (by decide)) W hW).mono (by
  rintro e w' ⟨hb,h,_⟩;exact⟨hb,h rfl⟩))
 have d:=hid hUT;clear hUT;go_enter func5,ntmps5;go_upto_region 1 with fail;go_wp2_with fail;refine(aF.out w d.out).mono ?_;rintro e w1 ⟨ad,g1,aN,rfl,aL⟩;go_upto_region 2 with fail;obtain⟨w2,u⟩:=ex (w1.alloc (.cells #[.slice (some ⟨g1,0,none⟩) 1 1,.int .i64 0] 24))
 obtain⟨n1,S⟩:=ex w1.heap.size
 have H:Hid (Below w.heap.size w w2):=hid (by rw[<-u];exact ad.alloc ad.size _);have ab:Hid (Blk w2 g1 37 #[.int .i64 2,.string ⟨([49]:K4).toArray⟩,.bool false,.slice none 0 0,.slice none 0 0]):=hid (by rw[<-u];exact aL.alloc _);have ai:Hid (Blk w2 n1 24 #[.slice (some ⟨g1,0,none⟩) 1 1,.int .i64 0]):=hid (by rw[<-u,<-S];exact K5 _ _ _);have aC:=hid (K7 _ _ d.out H.out);clear ad aN aL;(try rw[u]);(try rw[S]);clear u S;go_wp2_with fail;refine(aq.out w2 aC.out).mono ?_;rintro e w3 ⟨Z,R,aO,rfl,ao⟩;go_upto_region 3 with fail;obtain⟨w4,k⟩:=ex (w3.alloc (.cells #[.slice (some ⟨R,0,none⟩) 1 1,.int .i64 0] 24))
 obtain⟨n2,T⟩:=ex w3.heap.size
 have z:Below w2.heap.size w2 w4:=by rw[<-k];exact Z.alloc Z.size _
 have D:=hid (H.out.trans (z.mono H.out.size));have l:=hid (ab.out.below z ab.out.lt);have ar:=ai.out.below z ai.out.lt;have i:Hid (Blk w4 R 37 #[.int .i64 5,.string ⟨([97]:K4).toArray⟩,.bool false,.slice none 0 0,.slice none 0 0]):=hid (by rw[<-k];exact ao.alloc _);have aG:Blk w4 n2 24 #[.slice (some ⟨R,0,none⟩) 1 1,.int .i64 0]:=by rw[<-k,<-T];exact K5 _ _ _
 have an:=hid (K7 _ _ d.out D.out);obtain⟨a0,a1⟩:=cells2 ar;obtain⟨a2,a3⟩:=cells2 aG;clear Z aO ao z ar aG;(try rw[k]);(try rw[T]);clear k T;obtain⟨w5,B⟩:=ex (w4.alloc (.cells #[.slice (some ⟨g1,0,none⟩) 1 1,.int .i64 0,.slice (some ⟨R,0,none⟩) 1 1,.int .i64 0] 24))
 obtain⟨n3,aa⟩:=ex w4.heap.size
 have n:Below w4.heap.size w4 w5:=by rw[<-B];exact(K0 _ _).alloc (K1 _) _
 have Q:RowAt argL w5 w5.heap.size (some ⟨n3,0,none⟩) [argOf g1 2 [49],argOf R 5 [97]]:=by
  have ho:OwnRow argL w5 0 24 (.slice (some ⟨n3,0,none⟩) 2 2) [argOf g1 2 [49],argOf R 5 [97]]:=⟨argL.all_len _,.inr ⟨n3,2,_,rfl,Q6 _,by rw[<-B,<-aa];exact K5 _ _ _,K1 _,by decide,rfl,rfl⟩⟩
  obtain⟨A,c,hv,hg⟩:=ho.form;injection hv with e1 e2 e3
  subst e1;exact hg
 have X:=hid (D.out.trans (n.mono D.out.size));have hl:=zu5 (some ⟨n3,0,none⟩) 2 g1 R w5 (K7 _ _ an.out n) (l.out.below n l.out.lt) (i.out.below n i.out.lt) Q;have HL:=hid hl;clear n Q hl ai ab l i aF aq;go_wp2_with fail;(try rw[B]);(try rw[aa]);clear B aa a0 a1 a2 a3;refine HL.out.mono ?_;rintro e w6 ⟨av,P,c3,F,rfl,am⟩;go_upto_region 4 with fail;obtain⟨Y,G⟩:=ex (w6.alloc (.cells #[.slice P 3 c3,.int .i64 0] 24))
 obtain⟨n5,af⟩:=ex w6.heap.size
 have y:Below w6.heap.size w6 Y:=by rw[<-G];exact(K0 _ _).alloc (K1 _) _
 have r:=X.out.trans (av.mono X.out.size);have C:=hid (r.trans (y.mono r.size));have aD:Hid (GAt Y Y.heap.size P F nsL):=hid ((am.below y).more y.size);have f:Hid (Blk Y n5 24 #[.slice P 3 c3,.int .i64 0]):=hid (by rw[<-G,<-af];exact K5 _ _ _);have aP:=hid (K7 _ _ d.out C.out);clear av am y r HL H D X aC an;(try rw[G]);(try rw[af]);clear G af;go_wp2_with fail;refine(aw.out Y aP.out).mono ?_;rintro e w8 ⟨V,rfl⟩;go_upto_region 5 with fail;obtain⟨O,ae⟩:=ex (w8.alloc (.cells #[.slice none 0 0,.int .i64 0] 24))
 obtain⟨n7,aj⟩:=ex w8.heap.size
 have x:Below Y.heap.size Y O:=by rw[<-ae];exact V.alloc V.size _
 have ac:=hid (C.out.trans (x.mono C.out.size));have ak:Hid (GAt O O.heap.size P F nsL):=hid ((aD.out.below x).more x.size);have q:=hid (f.out.below x f.out.lt);clear V x aD f aw;(try rw[ae]);(try rw[aj]);clear ae aj;go_upto_region 6 with fail;obtain⟨s,hs⟩:=ex O.heap.size
 (try rw[hs]);obtain⟨wa,m⟩:=ex (O.alloc (.cells #[.int .i64 0] 3))
 have ba:Blk wa s 3 #[.int .i64 0]:=by rw[<-m,<-hs];exact K5 _ _ _
 have la:Below s O wa:=by rw[<-m,<-hs];exact(K0 _ _).alloc (K1 _) _
 have sa:wa.heap.size=s+1:=by rw[<-m,<-hs];simp
 obtain⟨wb,j⟩:=ex (wa.alloc (.cells #[.int .i64 9,.string ⟨#[]⟩,.bool false,.slice none 0 0,.slice (some ⟨s,0,none⟩) 1 1] 37))
 have bb:Blk wb (s+1) 37 #[.int .i64 9,.string ⟨#[]⟩,.bool false,.slice none 0 0,.slice (some ⟨s,0,none⟩) 1 1]:=by rw[<-j,<-sa];exact K5 _ _ _
 have lb:Below (s+1) wa wb:=by rw[<-j];exact(K0 _ _).alloc (by omega) _
 have sb:wb.heap.size=s+2:=by rw[<-j];simp[sa]
 obtain⟨wc,K⟩:=ex (wb.alloc (.cells #[.slice (some ⟨s+1,0,none⟩) 1 1,.int .i64 0] 24))
 have bc:Blk wc (s+2) 24 #[.slice (some ⟨s+1,0,none⟩) 1 1,.int .i64 0]:=by rw[<-K,<-sb];exact K5 _ _ _
 have lc:Below (s+2) wb wc:=by rw[<-K];exact(K0 _ _).alloc (by omega) _
 have ap:Blk wc (s+1) 37 #[.int .i64 9,.string ⟨#[]⟩,.bool false,.slice none 0 0,.slice (some ⟨s,0,none⟩) 1 1]:=bb.below lc (by omega);have al:Blk wc s 3 #[.int .i64 0]:=(ba.below lb (by omega)).below lc (by omega);have a:Below O.heap.size O wc:=by rw[hs];exact la.trans ((lb.mono (by omega)).trans (lc.mono (by omega)))
 obtain⟨vl,L⟩:=zu6 ap al;have au:=hid L;have M:=hid (ac.out.trans (a.mono ac.out.size));have aA:Hid (GAt wc wc.heap.size P F nsL):=hid ((ak.out.below a).more a.size);have o:=q.out.below a q.out.lt;have f:=hid o;have ag:=hid bc;have aE:=hid (K7 _ _ d.out M.out);obtain⟨q0,q1⟩:=cells2 bc;have HD:Hid (Calls prog 12 #[.agg #[.slice (some ⟨s+1,0,none⟩) 1 1,.int .i64 0]] wc fun e w'=>e=.returned (.tuple #[.int .i64 0,.bool false])/\Below wc.heap.size wc w'):=hid (by
  have N:=zcc (some ⟨s+1,0,none⟩) 1 vl nsLoop wc aE.out (zci _ (by decide)) (zb1 _ (by decide)) (zbb _ (by decide)) (by decide) (by decide) L;rw[zsh]at N;exact zsf (some ⟨s+1,0,none⟩) 1 1 0 0 (0,false) wc N (fun _=>zu7 L))
 (try rw[m]);(try rw[j]);(try rw[K]);clear hs m ba la sa j bb lb sb K bc lc ap al a L o ak q ac C;go_wp2_with fail;refine HD.out.mono ?_;rintro e U ⟨rfl,b⟩;have J:=hid (M.out.trans (b.mono M.out.size));have ax:=hid (K7 _ _ d.out J.out);have o:=f.out.below b f.out.lt;have t:=ag.out.below b ag.out.lt;obtain⟨r0,r1⟩:=cells2 o;have p:=hid t;have aH:Hid (Calls prog 13 #[.agg #[.slice P 3 c3,.int .i64 0]] U fun e w'=>e=.returned (.int .i64 3)/\Below U.heap.size U w'):=hid (by
  have N:=zcc P c3 F nsL U ax.out (zci _ (by decide)) (zb1 _ (by decide)) (zbb _ (by decide)) (by decide) (by decide) ((aA.out.below b).more b.size);rw[zsg]at N;exact zu0 P 3 c3 0 0 U N)
 have ay:Hid (GAt U U.heap.size (some ⟨s+1,0,none⟩) vl nsLoop):=hid ((au.out.below b).more b.size);clear b o t f ag au aA q0 q1 HD M aE;go_upto_region 7 with fail;go_wp2_with fail;refine aH.out.mono ?_;rintro e we ⟨rfl,v⟩;have E:=hid (J.out.trans (v.mono J.out.size));have aK:=hid (K7 _ _ d.out E.out);have t:=p.out.below v p.out.lt;obtain⟨q0,q1⟩:=cells2 t;have az:Hid (ChkOk we (.agg #[.slice (some ⟨s+1,0,none⟩) 1 1,.int .i64 0]) 0):=hid (by
  have N:=zcc (some ⟨s+1,0,none⟩) 1 vl nsLoop we aK.out (zci _ (by decide)) (zb1 _ (by decide)) (zbb _ (by decide)) (by decide) (by decide) ((ay.out.below v).more v.size);rw[zsh]at N;exact N)
 clear v t r0 r1 p ay J ax aH;go_wp2_with fail;refine(az.out we (K0 _ _)).mono ?_;rintro e wf ⟨rfl,aJ⟩;have I:=hid (E.out.trans (aJ.mono E.out.size));have ah:=zu4 wf (K7 _ _ d.out I.out) wf (K0 _ _);unfold gZero at ah;have aB:=hid ah;clear aJ ah q0 q1 E aK az;go_wp2_with fail;refine aB.out.mono ?_;rintro e wg ⟨rfl,aI⟩;have aM:=hid (I.out.trans (aI.mono I.out.size));clear aI I aB;go_wp2;go_ret;exact⟨rfl,aM.out⟩
theorem zjv (A A2:Option Addr) (c d n:Nat) (l:List Int) (hn:Hid (n=l.length)) (hl:n<=9223372036854775807) (w:World) (h:RowAt intI w w.heap.size A l) (h2:RowAt intI w w.heap.size A2 l):
 Calls prog 26 #[.slice A n c,.slice A2 n d] w fun e w'=>e=.returned (.bool true)/\Below w.heap.size w w':=by
 have H:=hid (And.intro h h2);clear h h2;go_enter func26,ntmps26;go_wp2_with fail;go_loopw [5] (fun s5 wr=>∃k:Nat,k<=n/\s5=.int .i64 (k:Int)/\Hid (Below w.heap.size w wr)) (fun s5 _=>n-(intOf s5).toNat)
 case atStart=>exact⟨0,Q6 _,rfl,hid (K0 _ _)⟩
 case round=>
  obtain⟨k,hk,rfl,b⟩:=hrel;by_cases hlt:k<n
  .have a:(k:Int)<(n:Int):=by omega
   obtain⟨ad,rfl,_,g⟩:=ze9 (H.out.1.below b.out) (show k<l.length by have:=hn.out;omega);obtain⟨ad2,rfl,_,i⟩:=ze9 (H.out.2.below b.out) (show k<l.length by have:=hn.out;omega);obtain⟨p,f⟩:∃p,l[k]'(by have:=hn.out;omega)=p:=⟨_,rfl⟩
   rw[f]at g i;clear f;go_wp2_with fail;go_quiet (fail);go_wp2;go_roundw
   case rel=>exact⟨k+1,by omega,by go_num,hid (below_drewN b.out _)⟩
   case measure=>simp[intOf];omega
  .have a:¬(k:Int)<(n:Int):=by omega
   go_wp2;go_ret;exact⟨rfl,b.out⟩
def Sz (is:List Gr.Ni):Prop:=is.length<=9223372036854775807/\∀x∈is,x.text.length<=9223372036854775807/\x.keys.length<=9223372036854775807/\x.items.length<=9223372036854775807
theorem zgw (A A2:Option Addr) (c c2:Nat) (root:Int) (vs vs2:List NV) (is:List Gr.Ni) (hz:Sz is) (w:World) (h:IAt w w.heap.size A vs is) (h2:IAt w w.heap.size A2 vs2 is):
 Calls prog 9 #[.agg #[.slice A is.length c,.int .i64 root],.agg #[.slice A2 is.length c2,.int .i64 root]] w fun e w'=>e=.returned (.bool true)/\Below w.heap.size w w':=by
 have H:=hid (And.intro h h2);have HZ:=hid hz;have hl:=hz.1;obtain⟨N,hN⟩:=ex is.length
 have HN:=hid hN;rw[hN]at hl ⊢;clear h h2 hz hN;obtain⟨l,p⟩:=ex w.heap.size
 have ae:=hid p;go_enter func9,ntmps9;go_upto_region 1 with fail;obtain⟨t,G⟩:=ex ((w.alloc (.cells #[.slice A N c,.int .i64 root] 24)).alloc (.cells #[.slice A2 N c2,.int .i64 root] 24))
 have i:Hid (Blk t l 24 #[.slice A N c,.int .i64 root]/\Blk t (l+1) 24 #[.slice A2 N c2,.int .i64 root]/\Below l w t):=hid (by
  rw[<-G,<-p];refine⟨(K5 _ _ _).alloc _,?_,((K0 _ _).alloc (K1 _) _).alloc (by simp) _⟩;have:=K5 (w.alloc (.cells #[.slice A N c,.int .i64 root] 24)) 24 #[.slice A2 N c2,.int .i64 root];rw[K8]at this;exact this)
 have Z:Hid (IAt t l A vs is/\IAt t l A2 vs2 is):=hid (by rw[<-p];exact⟨H.out.1.below (by have:=i.out.2.2;rwa[<-p]at this),H.out.2.below (by have:=i.out.2.2;rwa[<-p]at this)⟩);(try rw[G]);(try rw[p]);clear G p H;obtain⟨a0,a1⟩:=cells2 i.out.1;obtain⟨b0,b1⟩:=cells2 i.out.2.1;go_wp2_with fail;clear a0 a1 b0 b1;have m:Hid (l+1<t.heap.size):=hid i.out.2.1.lt;go_loopw [5] (fun s5 wr=>∃k:Nat,k<=N/\s5=.int .i64 (k:Int)/\Hid (Below t.heap.size t wr)) (fun s5 _=>N-(intOf s5).toNat)
 case atStart=>exact⟨0,Q6 _,rfl,hid (K0 _ _)⟩
 case round=>
  obtain⟨k,hk,rfl,L⟩:=hrel;obtain⟨f,ac⟩:∃f,f=wr:=⟨_,rfl⟩
  subst ac;have ca:=i.out.1.below L.out i.out.1.lt;have cb:=i.out.2.1.below L.out i.out.2.1.lt;have a0:f.cell? ⟨l,0,none⟩=some (.slice A N c):=ca.cell 0;have b0:f.cell? ⟨l+1,0,none⟩=some (.slice A2 N c2):=cb.cell 0;have j:Hid (t.heap.size<=f.heap.size):=hid L.out.size;clear ca cb;by_cases hlt:k<N
  .have aa:(k:Int)<(N:Int):=by omega
   have y:k<is.length:=by rw[HN.out];exact hlt
   have lq:=L.out.mono (show l<=t.heap.size by have:=m.out;omega);obtain⟨x,⟨M,kn,kc⟩,⟨F,qn,O⟩,rfl,S,c0,c1,T,c3,c4,r1,U,r2,R⟩:=(Z.out.1.below lq).node y;obtain⟨g,⟨s,d,u⟩,⟨n,b,r⟩,rfl,I,d0,d1,d2,d3,d4,s1,m1,s2,m2⟩:=(Z.out.2.below lq).node y;obtain⟨E,Y⟩:=ex (is[k].kind)
   obtain⟨v,V⟩:=ex (is[k].text)
   obtain⟨C,P⟩:=ex (is[k].ord)
   obtain⟨K,hK⟩:=ex (is[k].keys)
   obtain⟨Q,hQ⟩:=ex (is[k].items)
   have z:=HZ.out.2 _ (K2 y);simp only[Y,V,P,hK,hQ]at c0 c1 T d0 d1 d2 r1 U r2 R s1 m1 s2 m2 z;simp only at c3 c4 d3 d4;obtain rfl:d=kn:=m1.trans U.symm;obtain rfl:b=qn:=m2.trans R.symm;have q:Hid (RowAt intI f l M K/\RowAt intI f l F Q/\RowAt intI f l s K/\RowAt intI f l n Q):=hid ⟨r1,r2,s1,s2⟩;have D:Hid (d=K.length/\b=Q.length):=hid ⟨U,R⟩;have zk:d<=9223372036854775807:=by rw[U];exact z.2.1
   have zq:b<=9223372036854775807:=by rw[R];exact z.2.2
   clear Y V P hK hQ r1 U r2 R s1 m1 s2 m2 z lq y S I;go_wp2_with fail;go_cut [6,7] (fun s6 s7 wx=>∃g6 g7,s6=.pointer (some ⟨g6,0,none⟩)/\s7=.pointer (some ⟨g7,0,none⟩)/\Hid (Blk wx g6 37 #[.int .i64 E,.string ⟨v.toArray⟩,.bool C,.slice M d kc,.slice F b O]/\Blk wx g7 37 #[.int .i64 E,.string ⟨v.toArray⟩,.bool C,.slice s d u,.slice n b r]/\Below f.heap.size f wx))
   case first=>
    go_region_held3 (fun w'=>w'.cell? ⟨l,0,none⟩=some (.slice (some x) N c)/\w'.cell? ⟨l+1,0,none⟩=some (.slice (some g) N c2)/\
     w'.cell? (x.add (k*5))=some (.int .i64 E)/\
     w'.cell? {block:=(x.add (k*5)).block,off:=(x.add (k*5)).off+1}=some (.string ⟨v.toArray⟩)/\
     w'.cell? {block:=(x.add (k*5)).block,off:=(x.add (k*5)).off+2}=some (.bool C)/\
     w'.cell? {block:=(x.add (k*5)).block,off:=(x.add (k*5)).off+3}=some (.slice M d kc)/\
     w'.cell? {block:=(x.add (k*5)).block,off:=(x.add (k*5)).off+4}=some (.slice F b O)/\
     w'.cell? (g.add (k*5))=some (.int .i64 E)/\
     w'.cell? {block:=(g.add (k*5)).block,off:=(g.add (k*5)).off+1}=some (.string ⟨v.toArray⟩)/\
     w'.cell? {block:=(g.add (k*5)).block,off:=(g.add (k*5)).off+2}=some (.bool C)/\
     w'.cell? {block:=(g.add (k*5)).block,off:=(g.add (k*5)).off+3}=some (.slice s d u)/\
     w'.cell? {block:=(g.add (k*5)).block,off:=(g.add (k*5)).off+4}=some (.slice n b r))
      (first|go_keep| (simp[go_sem])) (fail)
    all_goals
     go_wp2;go_meet
    .refine⟨f.heap.size,f.heap.size+1,rfl,rfl,hid ⟨(K5 _ _ _).alloc _,?_,((((K0 f.heap.size f).alloc (K1 _) _).alloc (by simp) _).drew)⟩⟩;have:=K5 (f.alloc (.cells #[.int .i64 E,.string ⟨v.toArray⟩,.bool C,.slice M d kc,.slice F b O] 37)) 37 #[.int .i64 E,.string ⟨v.toArray⟩,.bool C,.slice s d u,.slice n b r];rw[K8]at this;exact this
    .refine⟨f.heap.size+1,f.heap.size,rfl,rfl,hid ⟨?_,(K5 _ _ _).alloc _,((((K0 f.heap.size f).alloc (K1 _) _).alloc (by simp) _).drew)⟩⟩;have:=K5 (f.alloc (.cells #[.int .i64 E,.string ⟨v.toArray⟩,.bool C,.slice s d u,.slice n b r] 37)) 37 #[.int .i64 E,.string ⟨v.toArray⟩,.bool C,.slice M d kc,.slice F b O];rw[K8]at this;exact this
   case rest=>
    obtain⟨g6,g7,rfl,rfl,a⟩:=hcut;clear c0 c1 T c3 c4 d0 d1 d2 d3 d4 a0 b0;obtain⟨e0,e1,e2,e3⟩:=cells4 a.out.1;obtain⟨f0,f1,f2,f3⟩:=cells4 a.out.2.1;have hts:((⟨v.toArray⟩:ByteArray)==⟨v.toArray⟩)=true:=by rw[str_eq];simp
    have J:Hid (Below l f wc):=hid (a.out.2.2.mono (by have:=m.out;have:=j.out;omega));have af:=hid (zjv M s kc u d K (hid D.out.1) zk wc ((q.out.1.below J.out).more (by have:=m.out;have:=j.out;have:=a.out.2.2.size;omega)) ((q.out.2.2.1.below J.out).more (by have:=m.out;have:=j.out;have:=a.out.2.2.size;omega)));go_wp2_with fail;refine af.out.mono ?_;rintro _ w5 ⟨rfl,o⟩;have W:=hid o;have x6:=a.out.1.below o a.out.1.lt;have x7:=a.out.2.1.below o a.out.2.1.lt;have e4:w5.cell? ⟨g6,4,none⟩=some (.slice F b O):=x6.cell 4;have f4:w5.cell? ⟨g7,4,none⟩=some (.slice n b r):=x7.cell 4;have B:Hid (Below l f w5):=hid (J.out.trans (o.mono (by have:=m.out;have:=j.out;have:=a.out.2.2.size;omega)));have ab:=hid (zjv F n O r b Q (hid D.out.2) zq w5 ((q.out.2.1.below B.out).more (by have:=m.out;have:=j.out;have:=a.out.2.2.size;have:=o.size;omega)) ((q.out.2.2.2.below B.out).more (by have:=m.out;have:=j.out;have:=a.out.2.2.size;have:=o.size;omega)));clear o x6 x7 e0 e1 e2 e3 f0 f1 f2 f3;go_wp2_with fail;refine ab.out.mono ?_;rintro _ w6 ⟨rfl,X⟩;have ag:Hid (Below t.heap.size t w6):=hid (L.out.trans ((a.out.2.2.mono j.out).trans ((W.out.mono (by have:=j.out;have:=a.out.2.2.size;omega)).trans (X.mono (by have:=j.out;have:=a.out.2.2.size;have:=W.out.size;omega)))));clear X e4 f4;go_wp2;go_roundw
    case rel=>exact⟨k+1,by omega,by go_num,ag⟩
    case measure=>simp[intOf];omega
  .have aa:¬(k:Int)<(N:Int):=by omega
   go_wp2;go_ret;exact⟨rfl,by rw[ae.out];exact i.out.2.2.trans (L.out.mono (by have:=m.out;omega))⟩
section
open Go.Shelf Go.Lib Go.ChangeShapes Go.WideShapes Go.ChangeAt Go.RowKit
def laid7:List (String×DataW Unit):=Rows.graphReplacesRow.laid
theorem own:ownKnob prog.godebug=none:=by kernel_rfl
theorem zvj:Rows.laid_unicode_utf8_first=X4:=by kernel_rfl
theorem zs4:(Rows.laid_unicode_utf8_acceptRanges:DataW Unit)=X3:=by kernel_rfl
noncomputable def laidWorld (os:Os):World:=World.laidAll prog os laid7
theorem zvk (os:Os) (args:Array Value):laidMet prog laid7 ((laidWorld os).forCall (fun _ _=>0) ⟨#[],args,[]⟩).memory:=laidMet_laidAll _ (by kernel_rfl) (by kernel_rfl)
theorem zs5:("unicode/utf8.first",X4)∈laid7:=by
 rw[<-zvj];exact .tail _ (.tail _ (.tail _ (.tail _ (.tail _ (.tail _ (.head _))))))
theorem zop:("unicode/utf8.acceptRanges",X3)∈laid7:=by
 rw[<-zs4];exact .tail _ (.tail _ (.tail _ (.head _)))
theorem zj1 {W:World} (h:laidMet prog laid7 W):Lib.Utf8Tabs 1 2 W:=
 utf8Tabs_of_readsT (ρ:=lays197_ren) {lays197 with} ⟨by kernel_rfl,by kernel_rfl,by kernel_rfl,by kernel_rfl,by kernel_rfl,by kernel_rfl,by kernel_rfl⟩ (Lib.laidMet.reads h zs5) (Lib.laidMet.reads h zop)
theorem zwa {W:World} {n:String} {k:IntKind} {zs:List Int} {t e:TypeId} {m g:Nat} (hg:prog.globalNamed n=some g) (hty:(prog.globals[g]?).map (·.type)=some t) (ht:prog.underlying t=some (.array m e)) (he:prog.underlying e=some (.int k)) (hce:prog.cellsOf e=1) (hct:prog.cellsOf t=m)
 (h:X6 prog W n (Y7 k zs)):Lib.TabIs prog W n k zs:=by
 obtain⟨g',t',cs,fuel,p,c,b,a,d⟩:=h;obtain rfl:=Option.some.inj (hg.symm.trans c);obtain rfl:=Option.some.inj (hty.symm.trans b);unfold Lib.TabIs;rw[a,<-Lib.cells_of_tab ht he hce hct d]
theorem zmh {W:World} {n:String} {t g:Nat} {ms:Array (String×TypeId)} {nm:String} {d:DataW Unit} (hg:prog.globalNamed n=some g) (hty:(prog.globals[g]?).map (·.type)=some t) (ht:prog.underlying t=some (.interface ms))
 (h:X6 prog W n (.iface nm d)):∃te p,W.cell? ⟨g,0,none⟩=some (.iface te p):=by
 obtain⟨g',t',cs,a,p,e,f,b,c⟩:=h;obtain rfl:=Option.some.inj (hg.symm.trans e);obtain rfl:=Option.some.inj (hty.symm.trans f);cases a with
 |zero=>simp[DataW.trod]at c
 |succ a=>
  have h0:=World.var?_cell hg b 0;unfold DataW.trod at c;rw[ht]at c;split at c<;>simp_all;rename_i hcs;rw[<-Array.getElem?_toList,hcs];exact⟨_,_,rfl⟩
theorem zzy:(Rows.laid_internal_strconv_uint64pow10:DataW Unit)=Y7 .u64 Lib.pow10Tab:=by kernel_rfl
theorem zzz:(Rows.laid_math_bits_deBruijn64tab:DataW Unit)=Y7 .u8 (Lib.deBruijn64tab.map Int.ofNat):=by kernel_rfl
theorem zoq {W:World} (hl:laidMet prog laid7 W):UT W:=by
 have h:=zj1 hl;have a:("math/bits.deBruijn64tab",(Rows.laid_math_bits_deBruijn64tab:DataW Unit))∈laid7:=.tail _ (.head _);have b:("internal/strconv.uint64pow10",(Rows.laid_internal_strconv_uint64pow10:DataW Unit))∈laid7:=.tail _ (.tail _ (.head _));have k:("strconv.ErrRange",(Rows.laid_strconv_ErrRange:DataW Unit))∈laid7:=.tail _ (.tail _ (.tail _ (.tail _ (.head _))));have f:("strconv.ErrSyntax",(Rows.laid_strconv_ErrSyntax:DataW Unit))∈laid7:=.tail _ (.tail _ (.tail _ (.tail _ (.tail _ (.head _)))));rw[zzz]at a;rw[zzy]at b;refine⟨h,?_,?_,?_,?_,?_⟩
 .have c:=(h.2 0 (by decide)).1;rcases X5 2 W.heap.size with h1|h1
  .exact h1
  .rw[World.cell?]at c;simp[Array.getElem?_eq_none h1]at c
 .exact zwa (t:=231) (e:=119) (m:=20) (g:=7) (by kernel_rfl) (by kernel_rfl) underlying231 underlying119 (by kernel_rfl) (by kernel_rfl) (Lib.laidMet.reads hl b)
 .have d:=zwa (t:=203) (e:=5) (m:=64) (g:=6) (by kernel_rfl) (by kernel_rfl) underlying203 underlying5 (by kernel_rfl) (by kernel_rfl) (Lib.laidMet.reads hl a);intro j i;have:=d.cell (g:=6) (by kernel_rfl) j (by simpa using i);rw[this]
  congr 2
  rw[Q5,Q5,List.getElem?_map];cases Lib.deBruijn64tab[j]? <;>rfl
 .exact zmh (t:=105) (g:=4) (by kernel_rfl) (by kernel_rfl) underlying105 (Lib.laidMet.reads hl f)
 .exact zmh (t:=105) (g:=5) (by kernel_rfl) (by kernel_rfl) underlying105 (Lib.laidMet.reads hl k)
end
namespace Gr
section
variable {kind:Int} {text:Str} {ns:List Nd} {r:Nat}
end
end Gr
namespace Gr
theorem zod {α:Type} (p q r:α->Bool) (l:List α) (h:∀x∈l,(p x=true->r x=true)/\(q x=true->r x=true)/\¬(p x=true/\q x=true)):l.countP p+l.countP q<=l.countP r:=by
 induction l with
 |nil=>simp
 |cons x l ih=>
  have h1:=ih (fun y d=>h y (.tail _ d));obtain⟨a,b,c⟩:=h x (.head _);rw[Y3,Y3,Y3];cases hp:p x<;>cases hq:q x<;>cases hr:r x<;>simp[hp,hq,hr]at a b c ⊢<;>omega
theorem LongR.le_n {ns:List Nd} {F:Nat->Nat} (hr:Refs ns) (hF:LongR (succ ns) ns.length F):∀(k v:Nat),F v<=k->v<ns.length->F v<=ns.length:=by
 classical
 have f:∀(k v:Nat),F v<=k->v<ns.length->F v<=(List.range ns.length).countP (fun i=>decide (Reach (succ ns) v i)):=by
  intro k
  induction k with
  |zero=>intro v h _;omega
  |succ k ih=>
   intro v h d;rcases hF.att v d with h1|⟨u,hu,h2,h3,x,hx,hn,h4⟩
   .rw[h1];unfold wt;apply List.countP_mono_left;intro i _ c;have:=qqy c;exact qqk this.1
   .have e:=hr.succ u x hx;have hp:=zpu (succ ns) ns.length v d;have g:=ih x (by omega) e;rw[h4];refine K6 (Nat.add_le_add_left g _) ?_;unfold wt;refine zod _ _ _ _ (fun i _=>⟨fun c=>?_,fun c=>?_,?_⟩)
    .exact qqk (qqy c).1
    .exact qqk (h2.trans ((Reach.one hx).trans (qqy c)))
    .rintro⟨a,b⟩;exact hn ((qqy b).trans (qqy a).2)
 intro k v h d;exact K6 (f k v h d) (K6 List.countP_le_length (by simp))
end Gr
structure RchAt (w:World) (od:Nat) (ra:Addr) (ns:List Q2):Prop where
 lt:ra.block<od
 row:∀v,v<ns.length->∃ob,ob<od/\w.cell? (ra.add v)=some (.slice (some ⟨ob,0,none⟩) ns.length ns.length)/\Blk w ob 4 (bcells (marks ns v))
theorem RchAt.below {w w':World} {od:Nat} {ra:Addr} {ns:List Q2} (h:RchAt w od ra ns) (hb:Below od w w'):RchAt w' od ra ns:=
 ⟨h.lt,fun v e=>by
  obtain⟨c,a,d,b⟩:=h.row v e;exact⟨c,a,(hb.cell (by rw[zbi];exact h.lt)).trans d,b.below hb a⟩⟩
def DOk (F:Nat->Nat) (n:Nat) (D:List Nat):Prop:=D.length=n/\∀v,v<n->D.getD v 0=0\/D.getD v 0=F v
theorem DOk.set {F:Nat->Nat} {n:Nat} {D:List Nat} (h:DOk F n D) (v:Nat):DOk F n (D.set v (F v)):=by
 refine⟨by rw[X0];exact h.1,fun u a=>?_⟩;by_cases he:v=u
 .subst he;right;exact za6 _ _ _ _ (by rw[h.1];exact a)
 .rw[Gr.getD_set_ne _ _ _ _ _ he];exact h.2 u a
theorem DOk.zero (F:Nat->Nat) (n:Nat):DOk F n (List.replicate n 0):=⟨by simp,fun v a=>.inl (by simp[Q5,a])⟩
structure LM (w:World) (od:Nat) (A:Option Addr) (vs:List NV) (ns:List Q2) (ra:Addr):Prop where
 at_:GAt w od A vs ns
 rch:RchAt w od ra ns
theorem LM.kb {w w':World} {od:Nat} {A:Option Addr} {vs:List NV} {ns:List Q2} {ra:Addr} (h:LM w od A vs ns ra) (hs:od<=w.heap.size) (hk:KB od w w'):LM w' od A vs ns ra:=
 ⟨h.at_.below (hk.below (K1 _) hs),h.rch.below (hk.below (K1 _) hs)⟩
theorem zv8 {w w':World} {base od:Nat} {v:Value} {l:List Nat} (h:OwnRow intL w base 3 v l) (hk:KB od w w') (hb:od<base):OwnRow intL w' base 3 v l:=by
 obtain⟨c,b⟩:=h;refine⟨c,?_⟩;rcases b with h2|⟨g,cap,cur,he,hg,hB,hr⟩
 .exact .inl h2
 .have a:Blk w g 3 cur:=hB;exact .inr ⟨g,cap,cur,he,hg,hk.blk a (by omega),hr⟩
theorem zjy (A:Option Addr) (c cR od:Nat) (root:Int) (vs:List NV) (ns:List Q2) (ra:Addr) (F:Nat->Nat) (hr:Refs ns) (hF:LongR (X1 ns) ns.length F) (hnl:ns.length<=1000) (hks:∀n∈ns,n.keys.length<=1000/\n.items.length<=1000):
 ∀(f v:Nat) (D:List Nat) (w:World),F v<f->v<ns.length->LM w od A vs ns ra->DOk F ns.length D->Blk w od 3 (icells D)->
 Calls prog 53 #[.agg #[.slice A ns.length c,.int .i64 root],.slice (some ra) ns.length cR,.slice (some ⟨od,0,none⟩) ns.length ns.length,.int .i64 v] w fun e w'=>e=.returned (.int .i64 (F v))/\KB od w w'/\∃D',DOk F ns.length D'/\Blk w' od 3 (icells D'):=by
 intro f
 induction f with
 |zero=>intro v D w h;omega
 |succ f ih=>
  intro v D w bj P hM hD hB;have bm:Hid (∀(x:Nat) (D:List Nat) (w:World),F x<F v->x<ns.length->LM w od A vs ns ra->DOk F ns.length D->Blk w od 3 (icells D)->
   Calls prog 53 #[.agg #[.slice A ns.length c,.int .i64 root],.slice (some ra) ns.length cR,.slice (some ⟨od,0,none⟩) ns.length ns.length,.int .i64 x] w fun e w'=>e=.returned (.int .i64 (F x))/\KB od w w'/\∃D',DOk F ns.length D'/\Blk w' od 3 (icells D')):=hid (fun x D w h=>ih x D w (by omega))
  have HM:=hid hM;have HR:=hid hr;have HF:=hid hF;have HD:=hid hD;have hvI:(v:Int)<(ns.length:Int):=by omega
  have bo:=hF.le_n hr (F v) v (K1 _) P;have bf:=hF.pos P;obtain⟨Fv,I⟩:=ex (F v)
  have an:=hid I;rw[I]at bo bf;obtain⟨Z,r⟩:=ex (w.alloc (.cells #[.slice A ns.length c,.int .i64 root] 24))
  have o:=hB.lt;obtain⟨G,K⟩:=ex w.heap.size
  have s:Hid (od<G/\G=w.heap.size):=hid ⟨by omega,K.symm⟩;have b1:Blk Z G 24 #[.slice A ns.length c,.int .i64 root]:=by rw[<-r,<-K];exact K5 _ _ _
  have d1:Blk Z od 3 (icells D):=by rw[<-r];exact hB.alloc _
  have k1:KB od w Z:=by rw[<-r];exact(Y5 _ _).alloc _
  have aX:Z.heap.size=G+1:=by rw[<-r,<-K];simp
  have am:=hid b1;have aS:=hid d1;have aT:=hid k1;have bz:=hid aX;obtain⟨dv,ap⟩:=ex (D.getD v 0)
  have aG:Hid (dv=0\/dv=Fv):=hid (by rw[<-ap,<-I];exact hD.2 v P);have z0:Z.cell? ⟨od,v,none⟩=some (.int .i64 (dv:Int)):=by rw[d1.cell,zaa (by rw[hD.1];exact P),ap]
  have bl:Hid (Value.int .i64 (F v:Int)=.int .i64 (Fv:Int)):=hid (by rw[I]);have hvb:v<=1000:=by omega
  clear hM hr hF hD hB ih bj o b1 d1 k1 aX I ap;go_enter func53,ntmps53;go_upto_region 1 with fail;(try rw[r]);(try rw[K]);clear r K;by_cases hd0:0<dv
  .have aL:(0:Int)<(dv:Int):=by omega
   have bw:Hid (dv=Fv):=hid (by rcases aG.out with h|h<;>omega);clear hd0;go_wp2;go_ret;exact⟨by rw[bl.out,bw.out]<;>rfl,aT.out,D,HD.out,aS.out⟩
  .have aL:¬(0:Int)<(dv:Int):=by omega
   clear hd0 aG;go_upto_region 5 with fail;clear z0;go_loopw [9,10,11] (fun s9 s10 s11 wr=>∃(i b:Nat) (D:List Nat),i<=ns.length/\b<=ns.length/\s11=.int .i64 i/\s10=.int .i64 b/\s9=.int .i64 (lwt ns v i:Nat)/\Hid (KB od Z wr/\DOk F ns.length D/\Blk wr od 3 (icells D)/\LBest ns F v i [] b)) (fun _ _ s11 _=>ns.length-(intOf s11).toNat)
   case atStart=>exact⟨0,0,D,by omega,by omega,rfl,rfl,rfl,hid ⟨Y5 _ _,HD.out,aS.out,LBest.start⟩⟩
   case round=>
    obtain⟨i,b,D,hi,hb,rfl,rfl,rfl,l⟩:=hrel;obtain⟨g,a9⟩:∃g,g=wr:=⟨_,rfl⟩
    subst a9;have u:Hid (Blk g G 24 #[.slice A ns.length c,.int .i64 root]/\G+1<=g.heap.size/\KB od w g):=hid ⟨l.out.1.blk am.out (by have:=s.out;omega),by have:=l.out.1.size;have:=bz.out;omega,aT.out.trans l.out.1⟩;have ag:Hid (LM g od A vs ns ra):=hid (HM.out.kb (by have:=s.out;omega) u.out.2.2);have g0:g.cell? ⟨G,0,none⟩=some (.slice A ns.length c):=u.out.1.cell 0;have a7:=zzl ns v i;have af:=hid (zux ns v i);obtain⟨wg,ab⟩:=ex (lwt ns v i)
    rw[ab]at a7 af;have bd:=hid ab;(try rw[ab]);clear ab;by_cases o:i<ns.length
    .have a1:(i:Int)<(ns.length:Int):=by omega
     obtain⟨ov,a5,rv,bv⟩:=ag.out.rch.row v P;obtain⟨oi,bp,ri,bi⟩:=ag.out.rch.row i o;obtain⟨p,hp⟩:=ex ((marks ns v).getD i false)
     obtain⟨q,Y⟩:=ex ((marks ns i).getD v false)
     have y1:g.cell? ⟨ov,i,none⟩=some (.bool p):=by rw[bv.cell,zae (by rw[zau HR.out P];exact o),hp]
     have y2:g.cell? ⟨oi,v,none⟩=some (.bool q):=by rw[bi.cell,zae (by rw[zau HR.out o];exact P),Y]
     have E:Hid (Gr.mt ns v i=(p && q)):=hid (by unfold Gr.mt mkd;rw[hp,Y]);have hib:i<=1000:=by omega
     clear bv bi a5 bp hp Y;cases p with
     |false=>
      have O:Hid (LBest ns F v (i+1) [] b/\lwt ns v (i+1)=wg):=hid ⟨l.out.2.2.2.skip (by rw[E.out];rfl),by rw[af.out,if_neg (by rw[E.out];simp)];rfl⟩;go_wp2;go_roundw
      case rel=>exact⟨i+1,b,D,by omega,hb,by go_num,rfl,by rw[O.out.2],hid ⟨l.out.1,l.out.2.1,l.out.2.2.1,O.out.1⟩⟩
      case measure=>simp[intOf];omega
     |true=>
      cases q with
      |false=>
       have O:Hid (LBest ns F v (i+1) [] b/\lwt ns v (i+1)=wg):=hid ⟨l.out.2.2.2.skip (by rw[E.out];rfl),by rw[af.out,if_neg (by rw[E.out];simp)];rfl⟩;go_wp2;go_roundw
       case rel=>exact⟨i+1,b,D,by omega,hb,by go_num,rfl,by rw[O.out.2],hid ⟨l.out.1,l.out.2.1,l.out.2.2.1,O.out.1⟩⟩
       case measure=>simp[intOf];omega
      |true=>
       have bk:Hid (lwt ns v (i+1)=wg+1):=hid (by rw[af.out,if_pos (by rw[E.out];rfl)]);have aP:Hid (Gr.mt ns v i=true):=hid E.out;obtain⟨ad,k,i2,rfl,L⟩:=ag.out.at_.node o;obtain⟨ka,kn,kc⟩:=k;obtain⟨V,bu,ic⟩:=i2;have aw:ns[i]∈ns:=K2 o;obtain⟨bt,aM⟩:=hks _ aw;have N:Hid (X1 ns i=ns[i].keys++ns[i].items/\∀x∈ns[i].keys++ns[i].items,x<ns.length):=hid ⟨zdb o,HR.out _ aw⟩;obtain⟨n,hn⟩:=ex (ns[i])
       rw[hn]at L N bt aM;obtain rfl:kn=n.keys.length:=L.kn;obtain rfl:bu=n.items.length:=L.inn;have x0:=L.c0;have x1:=L.c1;have x2:=L.c2;have x3:=L.c3;have x4:=L.c4;have aY:Hid (RowAt intL g od ka n.keys/\RowAt intL g od V n.items):=hid ⟨L.keys,L.items⟩;clear L hn aw;go_upto_region 10 with fail;obtain⟨a,ar⟩:=ex (g.alloc (.cells #[.int .i64 n.kind,.string ⟨n.text.toArray⟩,.bool n.ord,.slice ka n.keys.length kc,.slice V n.items.length ic] 37))
       obtain⟨X,ax⟩:=ex g.heap.size
       have d:Hid (Blk a X 37 #[.int .i64 n.kind,.string ⟨n.text.toArray⟩,.bool n.ord,.slice ka n.keys.length kc,.slice V n.items.length ic]/\Below g.heap.size g a/\X<a.heap.size/\g.heap.size<=X):=hid (by rw[<-ar,<-ax];exact⟨K5 _ _ _,(K0 _ _).alloc (K1 _) _,by simp,K1 _⟩);(try rw[ar]);(try rw[ax]);have s3:a.cell? ⟨X,3,none⟩=some (.slice ka n.keys.length kc):=d.out.1.cell 3;have s4:a.cell? ⟨X,4,none⟩=some (.slice V n.items.length ic):=d.out.1.cell 4;clear ar ax x0 x1 x2 x3 x4 g0 y1 y2 rv ri;go_cut [13] (fun s13 wx=>∃A2 c2,s13=.slice A2 (n.keys.length+n.items.length) c2/\Hid (OwnRow intL wx a.heap.size 3 (.slice A2 (n.keys.length+n.items.length) c2) (n.keys++n.items)/\Below a.heap.size a wx))
       case first=>
        have s3a:(a.alloc (.cells #[] 3)).cell? ⟨X,3,none⟩=some (.slice ka n.keys.length kc):=(d.out.1.alloc _).cell 3;have s4a:(a.alloc (.cells #[] 3)).cell? ⟨X,4,none⟩=some (.slice V n.items.length ic):=(d.out.1.alloc _).cell 4;have Q:OwnRow intL (a.alloc (.cells #[] 3)).drew a.heap.size 3 (.slice (some ⟨a.heap.size,0,none⟩) ([]:List Nat).length 0) []:=zfw a;have B:od<=g.heap.size:=by have:=s.out;have:=u.out.2.1;omega
        have aq:Below od g (a.alloc (.cells #[] 3)).drew:=below_drewN ((d.out.2.1.mono B).alloc (K6 B d.out.2.1.size) _) 1;have aQ:RowAt intL (a.alloc (.cells #[] 3)).drew od ka n.keys:=aY.out.1.below aq;have ah:RowAt intL (a.alloc (.cells #[] 3)).drew od V n.items:=aY.out.2.below aq;have J:Hid (a.heap.size<=(a.alloc (.cells #[] 3)).drew.heap.size/\od<=a.heap.size/\X<a.heap.size):=hid ⟨by simp,K6 B d.out.2.1.size,d.out.1.lt⟩;have a2:Hid (Blk (a.alloc (.cells #[] 3)).drew X 37 #[.int .i64 n.kind,.string ⟨n.text.toArray⟩,.bool n.ord,.slice ka n.keys.length kc,.slice V n.items.length ic]/\RowAt intL (a.alloc (.cells #[] 3)).drew od V n.items):=hid ⟨d.out.1.alloc _,ah⟩;have bx:([]:List Nat).length+n.keys.length<=1073741824:=by simp;omega
        have bn:n.keys.length+n.items.length<=1073741824:=by omega
        have aj:=J.out.1;clear aq ah B;go_region_law (first
         | (refine zai _ rfl (.tmp 56) (.tmp 58) 35 3 8 rfl intT a.heap.size (.slice (some ⟨a.heap.size,0,none⟩) ([]:List Nat).length 0) [] rfl Q _ _ kc n.keys rfl aQ bx aj ?_;intro v1 Z m aC aV;rw[List.nil_append]at m;obtain⟨A8,c8,bb,_⟩:=m.form;subst bb;have R:=Q.grown_below aC aj;have s41:Z.cell? ⟨X,4,none⟩=some (.slice V n.items.length ic):=(a2.out.1.below R J.out.2.2).cell 4;have aK:RowAt intL Z od V n.items:=a2.out.2.below (R.mono J.out.2.1);have r:a.heap.size<=Z.heap.size:=K6 aj R.size;have am:=hid R;clear aC aV R)
         | (refine zai _ rfl (.tmp 59) (.tmp 61) 35 3 8 rfl intT a.heap.size (.slice A8 n.keys.length c8) n.keys rfl m _ _ ic n.items rfl aK bn r ?_;intro v2 w2 t a0 aW;obtain⟨A9,c9,aD,_⟩:=t.form;rw[Q1]at aD;subst aD;have a8:Hid (OwnRow intL w2 a.heap.size 3 (.slice A9 (n.keys.length+n.items.length) c9) (n.keys++n.items)/\Below a.heap.size a w2):=hid ⟨t,(below_drewN ((K0 _ _).alloc (K1 _) _) 1).trans (am.out.trans (m.grown_below a0 r))⟩;clear t a0 aW))
        all_goals
         go_wp2;go_meet;exact⟨A9,c9,rfl,a8⟩
       case rest=>
        obtain⟨A2,c2,rfl,HN⟩:=hcut;have bs:Hid (KB od g wc):=hid ((Y4 d.out.2.1).trans (Y4 HN.out.2));have az:Hid (od<a.heap.size/\a.heap.size<=wc.heap.size):=hid ⟨by have:=d.out;have:=s.out;have:=u.out;omega,HN.out.2.size⟩;have bh:Hid (Blk wc od 3 (icells D)):=hid (by
         have h1:=l.out.2.2.1.below d.out.2.1 l.out.2.2.1.lt;exact h1.below HN.out.2 h1.lt)
        have aA:Hid (OwnRow intL wc a.heap.size 3 (.slice A2 (n.keys.length+n.items.length) c2) (n.keys++n.items)):=hid HN.out.1;obtain⟨T,ac⟩:=ex (n.keys++n.items)
        obtain⟨nl,S⟩:=ex (n.keys.length+n.items.length)
        have aF:T.length=nl:=by rw[<-ac,<-S];simp
        have aa:=hid aF;have hnb:nl<=2000:=by omega
        rw[S,ac]at aA;rw[ac]at N;(try rw[S]);clear HN ac s3 s4 aF;go_upto_region 12 with fail;go_loopw [10,14] (fun s10 s14 wr=>∃(j b:Nat) (D:List Nat),j<=nl/\b<=ns.length/\s14=.int .i64 j/\s10=.int .i64 b/\Hid (KB od wc wr/\DOk F ns.length D/\Blk wr od 3 (icells D)/\LBest ns F v i (T.take j) b)) (fun _ s14 _=>nl-(intOf s14).toNat)
        case atStart=>exact⟨0,b,D,by omega,hb,rfl,rfl,hid ⟨Y5 _ _,l.out.2.1,bh.out,by simpa using l.out.2.2.2⟩⟩
        case round=>
         obtain⟨j,b,D,hj,hb,rfl,rfl,z⟩:=hrel;obtain⟨C,a6⟩:∃C,C=wr:=⟨_,rfl⟩
         subst a6;have al:Hid (KB od g C):=hid (bs.out.trans z.out.1);by_cases hlj:j<nl
         .have ay:(j:Int)<(nl:Int):=by omega
          have M:j<T.length:=by rw[aa.out];exact hlj
          obtain⟨y,hy⟩:=ex (T[j])
          have ak:Hid (OwnRow intL C a.heap.size 3 (.slice A2 nl c2) T):=hid (zv8 aA.out z.out.1 az.out.1);obtain⟨aU,rfl,_,y0⟩:=zaf (zea ak.out).1 M;rw[hy]at y0;have ae:y<ns.length:=N.out.2 y (by rw[<-hy];exact K2 M);have hyI:(y:Int)<(ns.length:Int):=by omega
          have be:Hid (y∈X1 ns i):=hid (by rw[N.out.1,<-hy];exact K2 M);have a3:Hid (T.take (j+1)=T.take j++[y]):=hid (by rw[K3 M,hy]);have aH:Hid (LM C od (some ad) vs ns ra):=hid (ag.out.kb (by have:=s.out;have:=u.out;omega) al.out);obtain⟨oy,bq,ry,bY⟩:=aH.out.rch.row y ae;obtain⟨q,Y⟩:=ex ((marks ns y).getD v false)
          have y2:C.cell? ⟨oy,v,none⟩=some (.bool q):=by rw[bY.cell,zae (by rw[zau HR.out ae];exact P),Y]
          have ao:Hid (Blk C G 24 #[.slice (some ad) ns.length c,.int .i64 root]/\G<C.heap.size):=hid (by have h:=al.out.blk u.out.1 (by have:=s.out;omega);exact⟨h,h.lt⟩);have hjb:j<=2000:=by omega
          clear bY bq M hy;cases q with
          |true=>
           have U:Hid (LBest ns F v i (T.take (j+1)) b):=hid (by rw[a3.out];exact z.out.2.2.2.old Y);clear Y;go_wp2;go_roundw
           case rel=>exact⟨j+1,b,D,by omega,hb,by go_num,rfl,hid ⟨z.out.1,z.out.2.1,z.out.2.2.1,U.out⟩⟩
           case measure=>simp[intOf];omega
          |false=>
           have bg:Hid (F y<F v):=hid (HF.out.lt HR.out P o aP.out be.out Y);have au:=hid (HF.out.le_n HR.out (F y) y (K1 _) ae);have U:Hid (LBest ns F v i (T.take (j+1)) (max b (F y))):=hid (by rw[a3.out];exact z.out.2.2.2.new Y);have aE:Hid (∀W,Below C.heap.size C W->Calls prog 53 #[.agg #[.slice (some ad) ns.length c,.int .i64 root],.slice (some ra) ns.length cR,.slice (some ⟨od,0,none⟩) ns.length ns.length,.int .i64 y] W fun e w'=>e=.returned (.int .i64 (F y))/\KB od C w'/\∃D',DOk F ns.length D'/\Blk w' od 3 (icells D')):=hid (fun W hW=>
            (bm.out y D W bg.out ae (aH.out.kb (by have:=s.out;have:=ao.out.2;omega) (Y4 hW)) z.out.2.1 (z.out.2.2.1.below hW z.out.2.2.1.lt)).mono (fun _ _ ⟨e1,e2,e3⟩=>⟨e1,(Y4 hW).trans e2,e3⟩))
           obtain⟨fy,aZ⟩:=ex (F y)
           rw[aZ]at aE U au;have hfb:fy<=1000:=by have:=au.out;omega
           have hbb:b<=1000:=by omega
           have a4:Hid (max b fy<=ns.length):=hid (by have:=au.out;omega);obtain⟨mx,H⟩:=ex (max b fy)
           rw[H]at U a4;obtain⟨q0,q1⟩:=cells2 ao.out.1;have br:Hid (∀W,KB od C W->W.cell? ⟨G,0,none⟩=some (.slice (some ad) ns.length c)/\W.cell? ⟨G,1,none⟩=some (.int .i64 root)/\W.cell? (aU.add j)=some (.int .i64 y)):=hid (fun W hW=>by
            have h:=hW.blk ao.out.1 (by have:=s.out;omega);refine⟨h.cell 0,h.cell 1,?_⟩;obtain⟨ad4,e4,_,y4⟩:=zaf (zea (zv8 ak.out hW az.out.1)).1 (show j<T.length by rw[aa.out];exact hlj);injection e4 with e4
            subst e4;rw[y4];obtain⟨ad5,e5,_,y5⟩:=zaf (zea ak.out).1 (show j<T.length by rw[aa.out];exact hlj);injection e5 with e5
            subst e5;rw[y0]at y5;exact y5.symm)
           clear Y aZ;go_upto_region 15 with fail;clear y2 ry;have av:((b:Int)<(fy:Int)/\mx=fy)\/(¬(b:Int)<(fy:Int)/\mx=b):=by omega
           clear H;rcases av with⟨aB,H⟩|⟨aB,H⟩
           all_goals
            have aO:=hid H;clear H;go_region_held3 (fun w'=>w'.cell? ⟨G,0,none⟩=some (.slice (some ad) ns.length c)/\w'.cell? ⟨G,1,none⟩=some (.int .i64 root)/\w'.cell? (aU.add j)=some (.int .i64 y))
             (first|go_keep|exact br.out _ (by(first|assumption|exact Y5 _ _|exact(Y5 _ _).drewN 1|exact KB.drewN (by assumption) 1))) (first
             | (go_at_call 53;(with_reducible refine(aE.out _ ?_).mono ?_);(first|assumption|exact K0 _ _|exact(K0 _ _).drew|exact Below.drew (by assumption));rintro e1 aI ⟨rfl,aR,D1,aN,aJ⟩))
            all_goals
             have H3:Hid (KB od C aI/\DOk F ns.length D1/\Blk aI od 3 (icells D1)):=hid ⟨aR,aN,aJ⟩;clear aR aN aJ q0 q1 y0;go_wp2;go_roundw
             case rel=>exact⟨j+1,mx,D1,by omega,a4.out,by go_num,by(rw[aO.out];first|rfl| (congr 1;omega)),hid ⟨z.out.1.trans H3.out.1,H3.out.2.1,H3.out.2.2,U.out⟩⟩
             case measure=>simp[intOf];omega
         .have ay:¬(j:Int)<(nl:Int):=by omega
          have HE:Hid (LBest ns F v (i+1) [] b):=hid (z.out.2.2.2.next aP.out (by rw[N.out.1,Q0 (by rw[aa.out];omega)]));go_wp2;go_roundw
          case rel=>exact⟨i+1,b,D,by omega,hb,by go_num,rfl,by rw[bk.out];go_num,hid ⟨l.out.1.trans al.out,z.out.2.1,z.out.2.2.1,HE.out⟩⟩
          case measure=>simp[intOf];omega
    .have a1:¬(i:Int)<(ns.length:Int):=by omega
     have ai:Hid (wg+b=Fv):=hid (by
      obtain rfl:i=ns.length:=by omega
      have:=l.out.2.2.2.last HR.out P HF.out;rw[bd.out,an.out]at this;exact this)
     have hsb:wg+b<=1000:=by rw[ai.out];omega
     have zf:∀k,g.frozen? ⟨od,k,none⟩=false:=l.out.2.2.1.frozen;have z0:g.cell? ⟨od,v,none⟩=some (.int .i64 ((D.getD v 0:Nat):Int)):=by rw[l.out.2.2.1.cell,zaa (by rw[l.out.2.1.1];exact P)]
     have bB:Hid (DOk F ns.length (D.set v (F v))):=hid (l.out.2.1.set v);have ba:Hid (KB od w g):=hid u.out.2.2;have bA:Hid (Blk (g.setCell ⟨od,v,none⟩ (.int .i64 ((wg:Int)+(b:Int)))) od 3 (icells (D.set v (F v)))):=hid (by
      have h1:=l.out.2.2.1.set_ v (.int .i64 ((wg:Int)+(b:Int)));have e:(wg:Int)+(b:Int)=((F v:Nat):Int):=by rw[an.out,<-ai.out];omega
      rw[e,zam]at h1;rw[e];exact h1)
     have bc:Hid (Value.int .i64 ((wg:Int)+(b:Int))=.int .i64 (F v:Int)):=hid (by rw[an.out,<-ai.out];congr 1);go_wp2;go_ret;exact⟨by rw[<-bc.out]<;>rfl,ba.out.set _ _,D.set v (F v),bB.out,bA.out⟩
theorem zmb {w:World} {base n c:Nat} {E:TypeId} {A:Option Addr} {l:List K4} (h:OwnRow strL w base E (.slice A n c) l):RowAt strL w w.heap.size A l:=by
 obtain⟨A',c',e,a⟩:=h.form;injection e with e1 _ _
 subst e1;exact a
theorem zvb {w:World} {base n c:Nat} {A:Option Addr} {l:List K4} (h:OwnRow strL w base 9 (.slice A n c) l) (hl:0<l.length):∃g,A=some ⟨g,0,none⟩:=by
 obtain⟨h0,a⟩:=h;rcases a with⟨h2,h3⟩|⟨b,cap,cur,d,hb,hg,hc1,hc2,hc3,hc4⟩
 .omega
 .injection d with e1 e2 e3
  exact⟨b,e1⟩
theorem zvc (k:Nat) (h:k<=11) (i:Int) (hi:i=k) (j:Int) (hj:j=k+1) (W:World):(Instr.slice 9 (.string ⟨#[97,98,99,100,101,102,103,104,105,106,107,108]⟩) (some (.int .i64 i)) (some (.int .i64 j)) none).run prog W=.ok (.string ⟨([UInt8.ofNat (97+k)]:K4).toArray⟩) W:=by
 subst hi;subst hj;obtain rfl|rfl|rfl|rfl|rfl|rfl|rfl|rfl|rfl|rfl|rfl|rfl:k=0\/k=1\/k=2\/k=3\/k=4\/k=5\/k=6\/k=7\/k=8\/k=9\/k=10\/k=11:=by omega
 all_goals kernel_rfl
def headS (x:Q2):K4:=UInt8.ofNat (97+x.kind.toNat)::(Q4 x.text.length++58::(x.text++(Q4 x.items.length++[40])))
theorem zh1 {ns:List Q2} {f i:Nat} {x:Q2} (h:ns[i]? =some x):printF ns (f+1) i=headS x++(entS ns f x).flatten++(41::(if x.ord=true then[33]else[])):=by
 rw[zan h];unfold headS;simp
structure PrOk (ns:List Q2) (P:Nat->Prop) (F b:Nat):Prop where
 refs:Refs ns
 next:∀u,P u->∀v∈X1 ns u,P v
 kind:NodesOk ns
 lens:∀n∈ns,n.keys.length<=1000/\n.items.length<=1000/\n.text.length<=1000000
 len:∀f i,f<=F->P i->i<ns.length->(printF ns f i).length<=b
 small:b<=4611686018427387903
structure PM (w wr:World) (gc nc:Array Value) (v:Value) (L:List K4):Prop where
 below:Below w.heap.size w wr
 gbox:Blk wr w.heap.size 24 gc
 nbox:Blk wr (w.heap.size+1) 37 nc
 own:OwnRow strL wr (w.heap.size+2) 9 v L
 hd:w.heap.size+2<=wr.heap.size
section
variable {w wr w2:World} {gc nc:Array Value} {v v':Value} {L L':List K4}
theorem PM.later (h:PM w wr gc nc v L) (hb:Below wr.heap.size wr w2):PM w w2 gc nc v L:=
 ⟨h.below.trans (hb.mono h.below.size),h.gbox.below hb h.gbox.lt,h.nbox.below hb h.nbox.lt,h.own.later hb,K6 h.hd hb.size⟩
theorem PM.alloc (h:PM w wr gc nc v L) (o:Obj):PM w (wr.alloc o) gc nc v L:=h.later ((K0 _ _).alloc (K1 _) _)
theorem PM.drewN (h:PM w wr gc nc v L) (n:Nat):PM w (wr.drewN n) gc nc v L:=h.later (below_drewN (K0 _ _) n)
theorem PM.grown (h:PM w wr gc nc v L) (ho:OwnRow strL w2 (w.heap.size+2) 9 v' L') (hg:wr.grownBy w2 v.ownBlock):PM w w2 gc nc v' L':=
 ⟨h.below.trans ((h.own.grown_below hg h.hd).mono (by omega)),zbk h.gbox h.own hg (by omega),zbk h.nbox h.own hg (by omega),ho,K6 h.hd (h.own.grown_below hg h.hd).size⟩
end
theorem zob (A:Option Addr) (c:Nat) (root:Int) (vs:List NV) (ns:List Q2) (P:Nat->Prop) (F b:Nat) (hok:PrOk ns P F b) (_hnl:ns.length<=1000):
 ∀(f i:Nat) (w:World),f<=F->i<ns.length->P i->Tall' ns f i->GAt w w.heap.size A vs ns->
 Calls prog 52 #[.agg #[.slice A ns.length c,.int .i64 root],.int .i64 i] w fun e w'=>e=.returned (.string ⟨(printF ns f i).toArray⟩)/\Below w.heap.size w w':=by
 intro f
 induction f with
 |zero=>intro i w _ _ _ h;exact h.elim
 |succ f ih=>
  intro i w hF hi hP hT h;have an:ns[i]∈ns:=K2 hi;obtain⟨bJ,br,bt⟩:=hok.lens _ an;obtain⟨bE,bQ,be⟩:=hok.kind _ an;have aI:=zdb hi;have V:=zh1 (f:=f) (Q7 hi);have aX:=hok.len (f+1) i hF hP hi;have hsm:=hok.small;have aK:Hid (∀x∈ns[i].keys++ns[i].items,x<ns.length/\(printF ns f x).length<=b/\∀W,GAt W W.heap.size A vs ns->Calls prog 52 #[.agg #[.slice A ns.length c,.int .i64 root],.int .i64 x] W fun e w'=>e=.returned (.string ⟨(printF ns f x).toArray⟩)/\Below W.heap.size W w'):=hid (fun x hx=>by
   have a:=hok.refs _ an x hx;have h2:=hok.next i hP x (by rw[aI];exact hx);exact⟨a,hok.len f x (by omega) h2 a,fun W hW=>ih x W (by omega) a h2 (hT x (by rw[aI];exact hx)) hW⟩)
  have H:=hid h;obtain⟨z,ks,is,rfl,Q⟩:=h.node hi;obtain⟨ka,kn,kc⟩:=ks;obtain⟨ia,bK,ic⟩:=is;obtain⟨n,hn⟩:=ex (ns[i])
  rw[hn]at Q bJ br bt bE bQ be V aK;obtain rfl:kn=n.keys.length:=Q.kn;obtain rfl:bK=n.items.length:=Q.inn;obtain⟨w1,aR⟩:=ex (w.alloc (.cells #[.slice (some z) ns.length c,.int .i64 root] 24))
  have l1:Below w.heap.size w w1:=by rw[<-aR];exact(K0 _ _).alloc (K1 _) _
  have b1:Blk w1 w.heap.size 24 #[.slice (some z) ns.length c,.int .i64 root]:=by rw[<-aR];exact K5 _ _ _
  have bI:w1.heap.size=w.heap.size+1:=by rw[<-aR];simp
  have g0:w1.cell? ⟨w.heap.size,0,none⟩=some (.slice (some z) ns.length c):=b1.cell 0;have K:=Q.lt;have c0:w1.cell? (z.add (i*5))=some (.int .i64 n.kind):=(l1.cell K).trans Q.c0;have c1:w1.cell? {block:=(z.add (i*5)).block,off:=(z.add (i*5)).off+1}=some (.string ⟨n.text.toArray⟩):=(l1.cell (by exact K)).trans Q.c1;have c2:w1.cell? {block:=(z.add (i*5)).block,off:=(z.add (i*5)).off+2}=some (.bool n.ord):=(l1.cell (by exact K)).trans Q.c2;have c3:w1.cell? {block:=(z.add (i*5)).block,off:=(z.add (i*5)).off+3}=some (.slice ka n.keys.length kc):=(l1.cell (by exact K)).trans Q.c3;have c4:w1.cell? {block:=(z.add (i*5)).block,off:=(z.add (i*5)).off+4}=some (.slice ia n.items.length ic):=(l1.cell (by exact K)).trans Q.c4;have hiI:(i:Int)<(ns.length:Int):=by omega
  have bP:Hid (∀W,Below w.heap.size w W->RowAt intL W w.heap.size ka n.keys/\RowAt intL W w.heap.size ia n.items):=hid (fun W hW=>⟨Q.keys.below hW,Q.items.below hW⟩);have L1:=hid l1;have a7:=hid b1;have G:=hid V;have aO:=hid aX;clear ih hT h V aI an Q hn l1 b1 K aX hP hF;go_enter func52,ntmps52;go_upto_region 2 with fail;obtain⟨w2,aG⟩:=ex (w1.alloc (.cells #[.int .i64 n.kind,.string ⟨n.text.toArray⟩,.bool n.ord,.slice ka n.keys.length kc,.slice ia n.items.length ic] 37))
  obtain⟨nc,av⟩:∃nc:Array Value,#[.int .i64 n.kind,.string ⟨n.text.toArray⟩,.bool n.ord,.slice ka n.keys.length kc,.slice ia n.items.length ic]=nc:=⟨_,rfl⟩
  obtain⟨gc,ar⟩:∃gc:Array Value,#[.slice (some z) ns.length c,.int .i64 root]=gc:=⟨_,rfl⟩
  obtain⟨r,aA⟩:∃r:Nat,n.kind=(r:Int):=⟨n.kind.toNat,by omega⟩
  have aq:r<=11:=by omega
  have X:=hid aA;have d:Hid (nc[0]? =some (.int .i64 (r:Int))/\nc[1]? =some (.string ⟨n.text.toArray⟩)/\nc[2]? =some (.bool n.ord)/\nc[3]? =some (.slice ka n.keys.length kc)/\nc[4]? =some (.slice ia n.items.length ic)):=hid (by rw[<-av,<-aA];exact⟨rfl,rfl,rfl,rfl,rfl⟩);have ag:Hid (gc[0]? =some (.slice (some z) ns.length c)/\gc[1]? =some (.int .i64 root)):=hid (by rw[<-ar];exact⟨rfl,rfl⟩);have R:Hid (PM w w2 gc nc (.slice none 0 0) []):=hid (by
   have hb:=K5 w1 37 #[.int .i64 n.kind,.string ⟨n.text.toArray⟩,.bool n.ord,.slice ka n.keys.length kc,.slice ia n.items.length ic];rw[bI]at hb;rw[<-aG,<-av,<-ar];exact⟨L1.out.alloc (by omega) _,a7.out.alloc _,hb,Y1,by simp;omega⟩)
  have bj:Hid (∀W,Below w.heap.size w W->RowAt intL W w.heap.size ka n.keys/\RowAt intL W w.heap.size ia n.items):=bP;(try rw[aG]);clear aA aG av ar c0 c1 c2 c3 c4 g0 a7;have bk:=zvc r aq (r:Int) rfl ((r:Int)+1) rfl;have bb:=Gr.dec_len n.text.length (by omega);have bi:=Gr.dec_len n.items.length (by omega);have aT:=hid (fun(x:WB w2.heap.size w2)=>(zjx (n.text.length+1) n.text.length (by omega) (by omega) x.w).mono (fun _ _ ⟨e1,e2⟩=>(⟨e1,x.h.trans (e2.mono x.h.size)⟩:_/\Below w2.heap.size w2 _)));have ay:=hid (fun(x:WB w2.heap.size w2)=>(zjx (n.items.length+1) n.items.length (by omega) (by omega) x.w).mono (fun _ _ ⟨e1,e2⟩=>(⟨e1,x.h.trans (e2.mono x.h.size)⟩:_/\Below w2.heap.size w2 _)));have aZ:Hid (headS n=UInt8.ofNat (97+r)::(Q4 n.text.length++58::(n.text++(Q4 n.items.length++[40])))):=hid (by unfold headS;rw[X.out];rfl);obtain⟨d1,ab⟩:=ex (Q4 n.text.length)
  obtain⟨d2,Y⟩:=ex (Q4 n.items.length)
  obtain⟨a0,U⟩:∃a0:K4,[UInt8.ofNat (97+r)]=a0:=⟨_,rfl⟩
  obtain⟨a1,ak⟩:∃a1:K4,a0++d1=a1:=⟨_,rfl⟩
  obtain⟨a2,ah⟩:∃a2:K4,a1++[58]=a2:=⟨_,rfl⟩
  obtain⟨a3,ao⟩:∃a3:K4,a2++n.text=a3:=⟨_,rfl⟩
  obtain⟨a4,al⟩:∃a4:K4,a3++d2=a4:=⟨_,rfl⟩
  obtain⟨hd,aE⟩:∃hd:K4,a4++[40]=hd:=⟨_,rfl⟩
  have ai:Hid (headS n=hd):=hid (by rw[aZ.out,ab,Y,<-aE,<-al,<-ao,<-ah,<-ak,<-U];simp);rw[ab]at bb aT;rw[Y]at bi ay;have r1:=zad a0 d1 (by rw[<-U];simp;omega);have bO:a1.length<=100:=by rw[<-ak,<-U];simp;omega
  have r2:=zad a1 [58] (by simp;omega);have bC:a2.length<=101:=by rw[<-ah];simp;omega
  have r3:=zad a2 n.text (by omega);have bH:a3.length<=1000101:=by rw[<-ao];simp;omega
  have r4:=zad a3 d2 (by omega);have bu:a4.length<=1000201:=by rw[<-al];simp;omega
  have r5:=zad a4 [40] (by simp;omega);rw[U]at bk;rw[ak]at r1;rw[ah]at r2;rw[ao]at r3;rw[al]at r4;rw[aE]at r5;have p0:∀x:WB w2.heap.size w2,x.w.cell? ⟨w.heap.size+1,0,none⟩=some (.int .i64 (r:Int)):=fun x=>by rw[(R.out.later x.h).nbox.cell];exact d.out.1
  have p1:∀x:WB w2.heap.size w2,x.w.cell? ⟨w.heap.size+1,1,none⟩=some (.string ⟨n.text.toArray⟩):=fun x=>by rw[(R.out.later x.h).nbox.cell];exact d.out.2.1
  have p4:∀x:WB w2.heap.size w2,x.w.cell? ⟨w.heap.size+1,4,none⟩=some (.slice ia n.items.length ic):=fun x=>by rw[(R.out.later x.h).nbox.cell];exact d.out.2.2.2.2
  clear ab Y U ak ah ao al aE bb bi bO bC bH bu aZ;refine zac w2.heap.size w2 (by kernel_rfl) (by kernel_rfl) (K0 _ _) ?_
  repeat (go_big_quiet_step (((first| (with_reducible refine Y2 (aT.out _))| (with_reducible refine Y2 (ay.out _))))))
  refine wpQuiet_nil ?_;rintro _ ⟨wz,rfl⟩;obtain⟨w3,au⟩:=ex wz.w
  have bs:Hid (PM w w3 gc nc (.slice none 0 0) []):=hid (by rw[<-au];exact R.out.later wz.h);(try rw[au]);clear au p0 p1 p4 bk r1 r2 r3 r4 r5 aT ay R;go_upto_region 5 with fail;go_loopw [7,8] (fun s7 s8 wr=>∃(k:Nat) (L:List K4) (AL:Option Addr) (cL:Nat),k<=n.items.length/\s8=.int .i64 k/\s7=.slice AL L.length cL/\Hid (PM w wr gc nc (.slice AL L.length cL) L/\L=entT ns f n k)) (fun _ s8 _=>n.items.length-(intOf s8).toNat)
  case atStart=>exact⟨0,[],none,0,by omega,rfl,rfl,hid ⟨bs.out,(zsr _ _ _).symm⟩⟩
  case round=>
   obtain⟨k,L,AL,cL,hk,rfl,rfl,I⟩:=hrel;obtain⟨m,bp⟩:∃m,m=wr:=⟨_,rfl⟩
   subst bp;have aJ:L.length=k:=by rw[I.out.2];exact zva _ _ _ _ hk
   have s4:m.cell? ⟨w.heap.size+1,4,none⟩=some (.slice ia n.items.length ic):=by rw[I.out.1.nbox.cell];exact d.out.2.2.2.2
   by_cases hlk:k<n.items.length
   .have a8:(k:Int)<(n.items.length:Int):=by omega
    obtain⟨y,hy⟩:=ex (n.items[k])
    obtain⟨a5,rfl,_,y0⟩:=zaf (bj.out m I.out.1.below).2 hlk;rw[hy]at y0;have aW:y∈n.keys++n.items:=List.mem_append_right _ (by rw[<-hy];exact K2 hlk);have aM:=hid (aK.out y aW);have bd:Hid (n.items.getD k 0=y):=hid (by rw[za8 hlk,hy]);have ae:=hid (zst ns f n k hlk);have q0:∀x:WB m.heap.size m,x.w.cell? ⟨w.heap.size,0,none⟩=some (.slice (some z) ns.length c):=fun x=>by rw[(I.out.1.later x.h).gbox.cell];exact ag.out.1
    have q1:∀x:WB m.heap.size m,x.w.cell? ⟨w.heap.size,1,none⟩=some (.int .i64 root):=fun x=>by rw[(I.out.1.later x.h).gbox.cell];exact ag.out.2
    have q4:∀x:WB m.heap.size m,x.w.cell? ⟨w.heap.size+1,4,none⟩=some (.slice (some a5) n.items.length ic):=fun x=>by rw[(I.out.1.later x.h).nbox.cell];exact d.out.2.2.2.2
    have qy:∀x:WB m.heap.size m,x.w.cell? (a5.add k)=some (.int .i64 (y:Int)):=fun x=>(x.h.cell (Q8 m _ y0)).trans y0
    have M:Hid (∀x:WB m.heap.size m,Calls prog 52 #[.agg #[.slice (some z) ns.length c,.int .i64 root],.int .i64 y] x.w fun e w'=>e=.returned (.string ⟨(printF ns f y).toArray⟩)/\Below m.heap.size m w'):=hid (fun x=>
     (aM.out.2.2 x.w ((H.out.below (I.out.1.later x.h).below).more (I.out.1.later x.h).below.size)).mono (fun _ _ ⟨e1,e2⟩=>⟨e1,x.h.trans (e2.mono x.h.size)⟩))
    have aQ:Hid ((printF ns f y).length<=b):=hid aM.out.2.1;obtain⟨ti,bc⟩:=ex (printF ns f y)
    rw[bd.out]at ae;rw[bc]at M aQ ae;have bN:k<=1000:=by omega
    clear hy aW y0 bc;go_upto_region 7 with fail;clear s4;refine zac m.heap.size m (by kernel_rfl) (by kernel_rfl) (K0 _ _) ?_
    repeat (go_big_quiet_step (((first| (with_reducible refine Y2 (M.out _))))))
    refine wpQuiet_nil ?_;rintro _ ⟨aV,rfl⟩;obtain⟨s,aB⟩:=ex aV.w
    have l:Hid (PM w s gc nc (.slice AL L.length cL) L):=hid (by rw[<-aB];exact I.out.1.later aV.h);(try rw[aB]);clear aB q0 q1 q4 qy;have q0:s.cell? ⟨w.heap.size+1,0,none⟩=some (.int .i64 (r:Int)):=by rw[l.out.nbox.cell];exact d.out.1
    have bh:Hid (n.kind=10->∃(tk:K4) (adk:Addr) (yk:Nat),n.keys.getD k 0=yk/\printF ns f yk=tk/\tk.length<=b/\ka=some adk/\k<n.keys.length/\(∀x:WB s.heap.size s,x.w.cell? (adk.add k)=some (.int .i64 (yk:Int)))/\
     ∀x:WB s.heap.size s,Calls prog 52 #[.agg #[.slice (some z) ns.length c,.int .i64 root],.int .i64 yk] x.w fun e w'=>e=.returned (.string ⟨tk.toArray⟩)/\Below s.heap.size s w'):=hid (fun bn=>by
     have B:k<n.keys.length:=by rw[be bn];exact hlk
     obtain⟨yk,aL⟩:=ex (n.keys[k])
     obtain⟨adk,aU,_,aC⟩:=zaf (bj.out s l.out.below).1 B;rw[aL]at aC;have ba:yk∈n.keys++n.items:=List.mem_append_left _ (by rw[<-aL];exact K2 B);have hY:=aK.out yk ba;refine⟨_,adk,yk,by rw[za8 B,aL],rfl,hY.2.1,aU,B,fun x=>(x.h.cell (Q8 s _ aC)).trans aC,fun x=>?_⟩;exact(hY.2.2 x.w ((H.out.below (l.out.later x.h).below).more (l.out.later x.h).below.size)).mono (fun _ _ ⟨e1,e2⟩=>⟨e1,x.h.trans (e2.mono x.h.size)⟩))
    go_upto_region 8 with fail;go_upto_if 54 with fail;go_cut [9] (fun s9 wx=>∃t:K4,s9=.string ⟨t.toArray⟩/\Hid (PM w wx gc nc (.slice AL L.length cL) L/\t=(if n.kind=10 then printF ns f (n.keys.getD k 0)else[])++ti))
    case first=>
     by_cases hk10:r=10
     .have C:((r:Int)==10)=true:=by rw[hk10];rfl
      have p:n.kind=10:=by rw[X.out,hk10];rfl
      obtain⟨tk,adk,yk,e1,e2,htkl,rfl,B,qk,ap⟩:=bh.out p;have bq:=hid ap;have bG:Hid ((if n.kind=10 then printF ns f (n.keys.getD k 0)else[])=tk):=hid (by rw[if_pos p,e1,e2]);have hlk2I:(k:Int)<(n.keys.length:Int):=by omega
      have q0:∀x:WB s.heap.size s,x.w.cell? ⟨w.heap.size,0,none⟩=some (.slice (some z) ns.length c):=fun x=>by rw[(l.out.later x.h).gbox.cell];exact ag.out.1
      have q1:∀x:WB s.heap.size s,x.w.cell? ⟨w.heap.size,1,none⟩=some (.int .i64 root):=fun x=>by rw[(l.out.later x.h).gbox.cell];exact ag.out.2
      have q3:∀x:WB s.heap.size s,x.w.cell? ⟨w.heap.size+1,3,none⟩=some (.slice (some adk) n.keys.length kc):=fun x=>by rw[(l.out.later x.h).nbox.cell];exact d.out.2.2.2.1
      have rk:=zad tk ti (by have:=aQ.out;omega);obtain⟨tt,aD⟩:=ex (tk++ti)
      have aN:Hid (tt=(if n.kind=10 then printF ns f (n.keys.getD k 0)else[])++ti):=hid (by rw[bG.out,aD]);rw[aD]at rk;clear e1 e2 ap aD hk10 p;go_upto_region 9 with fail;refine zac s.heap.size s (by kernel_rfl) (by kernel_rfl) (K0 _ _) ?_
      repeat (go_big_quiet_step (((first| (with_reducible refine Y2 (bq.out _))))))
      refine wpQuiet_nil ?_;rintro _ ⟨bx,rfl⟩;go_wp2;go_meet;exact⟨tt,rfl,hid ⟨l.out.later bx.h,aN.out⟩⟩
     .have C:((r:Int)==10)=false:=by rw[qqq];omega
      have aN:Hid (ti=(if n.kind=10 then printF ns f (n.keys.getD k 0)else[])++ti):=hid (by rw[if_neg (by have:=X.out;omega)];rfl);clear hk10;go_wp2;go_meet;exact⟨ti,rfl,hid ⟨l.out,aN.out⟩⟩
    case rest=>
     obtain⟨t,rfl,HT⟩:=hcut;have aY:Hid (entT ns f n (k+1)=if n.kind=10/\n.ord=false then insL L t else L++[t]):=hid (by rw[ae.out,<-HT.out.2,I.out.2]);have HLL:Hid (L.length=k):=hid aJ;have bv:L.length<=1000:=by omega
     have aH:Hid (w.heap.size+2<=wc.heap.size):=hid HT.out.1.hd;clear bh ae l M aQ aM bd q0 aJ bN;go_wp2_with (at_builtin;go_must (refine zab _ rfl (.tmp 64) (.tmp 66) 76 9 16 rfl strT (w.heap.size+2) (.slice AL L.length cL) L rfl (HT.out.1.own.alloc _) _ _ 1 [t] rfl (Y6 _ _ rfl _ ?_) ?_ ?_ ?_))
     any_goals (first|rfl| (have:=aH.out;omega)| (have:=aH.out;simp;omega)| (rw[K8];have:=aH.out;omega))
     intro v' w5 E hg bB;have bf:Hid (PM w w5 gc nc v' (L++[t])):=hid ((HT.out.1.alloc _).grown E hg);obtain⟨A5,c5,bm,_⟩:=E.form;subst bm;obtain⟨g,rfl⟩:=zvb E (by simp);obtain⟨m5,af⟩:=ex ((L++[t]).length)
     have N:Hid (m5=L.length+1):=hid (by rw[<-af];simp);have hm51:1<=m5:=by rw[N.out];omega
     have hm5b:m5<=1001:=by rw[N.out];omega
     rw[af]at bf;(try rw[af]);clear E hg bB af;go_upto_region 12 with fail;go_loopw [10] (fun s10 wr=>∃j:Nat,j<=L.length/\s10=.int .i64 j/\Hid (PM w wr gc nc (.slice (some ⟨g,0,none⟩) m5 c5) (wand L t j)/\(¬(n.kind=10/\n.ord=false)->j=L.length)/\∀y∈L.drop j,ltS t y=true)) (fun s10 _=>(intOf s10).toNat)
     case atStart=>exact⟨L.length,K1 _,by(have:=N.out;congr 1;omega),hid ⟨by have:=bf.out;unfold wand;rwa[Y8,Y9],fun _=>rfl,by simp⟩⟩
     case round=>
      obtain⟨j,hj,rfl,HJ⟩:=hrel;have s0:wr.cell? ⟨w.heap.size+1,0,none⟩=some (.int .i64 (r:Int)):=by rw[HJ.out.1.nbox.cell];exact d.out.1
      have s2:wr.cell? ⟨w.heap.size+1,2,none⟩=some (.bool n.ord):=by rw[HJ.out.1.nbox.cell];exact d.out.2.2.1
      have aa:Hid (m5=(wand L t j).length):=hid (by rw[zma _ _ _ hj,N.out]);have ac:Hid (((n.kind=10/\n.ord=false)->∀i,(h:i<L.length)->i+1=j->ltS t L[i]=false)->PM w wr gc nc (.slice (some ⟨g,0,none⟩) (wand L t j).length c5) (wand L t j)/\wand L t j=entT ns f n (k+1)):=hid (fun h=>by
       refine⟨by rw[<-aa.out];exact HJ.out.1,?_⟩;rw[aY.out];by_cases hm:n.kind=10/\n.ord=false
       .rw[if_pos hm,zyc t L j hj HJ.out.2.2 (h hm)];rfl
       .rw[if_neg hm,HJ.out.2.1 hm];unfold wand;rw[Y8,Y9])
      by_cases hk10:r=10
      .have C:((r:Int)==10)=true:=by rw[hk10];rfl
       have p:n.kind=10:=by rw[X.out,hk10];rfl
       obtain⟨o,J⟩:=ex n.ord
       rw[J]at s2;cases o with
       |true=>
        have Z:=hid (ac.out (fun h=>by rw[J]at h;cases h.2));clear J p hk10;go_upto_region 12 with fail;go_quiet (fail);go_wp2;go_roundw
        case rel=>exact⟨k+1,wand L t j,some ⟨g,0,none⟩,c5,by omega,by go_num,by rw[<-aa.out],hid ⟨Z.out.1.drewN _,Z.out.2⟩⟩
        case measure=>simp[intOf];omega
       |false=>
        cases j with
        |zero=>
         have Z:=hid (ac.out (fun _ i _ h=>by omega));clear J p hk10;go_upto_region 12 with fail;go_quiet (fail);go_wp2;go_roundw
         case rel=>exact⟨k+1,wand L t 0,some ⟨g,0,none⟩,c5,by omega,by go_num,by rw[<-aa.out],hid ⟨Z.out.1.drewN _,Z.out.2⟩⟩
         case measure=>simp[intOf];omega
        |succ j=>
         have az:j<L.length:=by omega
         obtain⟨cur,hB,bz,ax,aF,T⟩:=zk4 HJ.out.1.own;have bl:=zma L t (j+1) hj;have z1:wr.cell? ⟨g,j+1,none⟩=some (.string ⟨t.toArray⟩):=by
          have a:=zyd L t (j+1) hj;rw[Q7 (by omega)]at a;injection a with a
          rw[ax (j+1) (by omega),a]
         obtain⟨u,hu⟩:=ex (L[j])
         have z0:wr.cell? ⟨g,j,none⟩=some (.string ⟨u.toArray⟩):=by
          have a:=zu9 L t j az;rw[Q7 (by omega),hu]at a;injection a with a
          rw[ax j (by omega),a]
         have hjb:j<=1000:=by omega
         have hjm:(j:Int)+1<(m5:Int):=by have:=N.out;omega
         have hjm0:(j:Int)<(m5:Int):=by have:=N.out;omega
         have bw:Hid (∀q,PM w (((wr.drewN q).setCell ⟨g,j,none⟩ (.string ⟨t.toArray⟩)).setCell ⟨g,j+1,none⟩ (.string ⟨u.toArray⟩)) gc nc (.slice (some ⟨g,0,none⟩) m5 c5) (wand L t j)):=hid (fun q=>by
          have hh:=HJ.out.1.drewN q;obtain⟨_,_,_,_,_,T⟩:=zk4 hh.own;have o1:=T j t (by omega);obtain⟨_,_,_,_,_,aP⟩:=zk4 o1;have o2:=aP (j+1) u (by rw[X0];omega);rw[<-hu,zsp L t j az,hu]at o2;have hsz:w.heap.size+2<=g:=bz;refine⟨(hh.below.setCell (show w.heap.size<=g by omega) _).setCell (show w.heap.size<=g by omega) _,?_,?_,o2,by simpa using hh.hd⟩
          .exact(hh.gbox.far (show w.heap.size≠g by omega) _).far (show w.heap.size≠g by omega) _
          .exact(hh.nbox.far (show w.heap.size+1≠g by omega) _).far (show w.heap.size+1≠g by omega) _)
         have a9:Hid (L[j]=u):=hid hu;obtain⟨c7,bA⟩:=ex (Op.bytesLess t u)
         have M:Hid (ltS t u=c7):=hid (by rw[<-zl9,bA]);have bo:=hid aF;clear hB ax aF T bl hu;cases c7 with
         |false=>
          have Z:=hid (ac.out (fun _ i hi h=>by
           obtain rfl:i=j:=by omega
           rw[a9.out];exact M.out))
          clear J p hk10;go_upto_region 12 with fail;go_quiet (fail);go_wp2;go_roundw
          case rel=>exact⟨k+1,wand L t (j+1),some ⟨g,0,none⟩,c5,by omega,by go_num,by rw[<-aa.out],hid ⟨Z.out.1.drewN _,Z.out.2⟩⟩
          case measure=>simp[intOf];omega
         |true=>
          have bM:Hid (∀y∈L.drop j,ltS t y=true):=hid (fun y hy=>by
           rw[List.drop_eq_getElem_cons az,a9.out]at hy;rcases List.mem_cons.1 hy with rfl|hy
           .exact M.out
           .exact HJ.out.2.2 y hy)
          have bL:Hid (n.kind=10/\n.ord=false):=hid ⟨p,J⟩;clear J p hk10;go_upto_region 12 with fail;go_quiet (fail);go_upto_region 14 with fail;have aF:=bo.out;go_region
          all_goals
           go_wp2_with fail;exact⟨⟨j,by omega,rfl,hid ⟨bw.out _,fun h=>absurd bL.out h,bM.out⟩⟩,by simp[intOf]⟩
      .have C:((r:Int)==10)=false:=by rw[qqq];omega
       have Z:=hid (ac.out (fun h=>by have:=X.out;omega));clear hk10;go_upto_region 12 with fail;go_quiet (fail);go_wp2;go_roundw
       case rel=>exact⟨k+1,wand L t j,some ⟨g,0,none⟩,c5,by omega,by go_num,by rw[<-aa.out],hid ⟨Z.out.1.drewN _,Z.out.2⟩⟩
       case measure=>simp[intOf];omega
   .have a8:¬(k:Int)<(n.items.length:Int):=by omega
    have aj:Hid (L=entS ns f n/\L.length<=1000):=hid ⟨by rw[I.out.2,zss _ _ _ _ (by omega)],by omega⟩;have bv:L.length<=1000:=by omega
    clear aJ;go_upto_region 16 with fail;go_loop [6,11] (fun s6 s11=>∃(i:Nat) (S:K4),i<=L.length/\s11=.int .i64 i/\s6=.string ⟨S.toArray⟩/\Hid (S=hd++(L.take i).flatten)) (fun _ s11=>L.length-(intOf s11).toNat)
    case atStart=>exact⟨0,hd,by omega,rfl,rfl,hid (by simp)⟩
    case round=>
     obtain⟨O,S,hi2,rfl,rfl,HS⟩:=hrel;have bD:Hid (S.length+2<=b+2/\∀u,u∈L->S.length<=b/\O<O+1):=hid ⟨by
      have a:=aO.out;rw[G.out,ai.out,<-aj.out.1]at a;have h2:=zf2 L O;rw[HS.out];simp only[Q1,Q3]at a ⊢;omega,fun u _=>⟨by
      have a:=aO.out;rw[G.out,ai.out,<-aj.out.1]at a;have h2:=zf2 L O;rw[HS.out];simp only[Q1,Q3]at a ⊢;omega,by omega⟩⟩
     by_cases hli:O<L.length
     .have bg:(O:Int)<(L.length:Int):=by omega
      obtain⟨u,hu⟩:=ex (L[O])
      obtain⟨adl,rfl,_,l0⟩:=zv7 (zmb I.out.1.own) hli;rw[hu]at l0;have aw:Hid (S++u=hd++(L.take (O+1)).flatten):=hid (by rw[K3 hli,hu,HS.out];simp);have bF:S.length+u.length<=b:=by
       have a:=aO.out;rw[G.out,ai.out,<-aj.out.1]at a;have h2:=zf2 L (O+1);have h3:=congrArg List.length aw.out;simp only[Q1,Q3]at a h3;omega
      have rS:=zad S u (by omega);obtain⟨S2,D⟩:=ex (S++u)
      rw[D]at rS aw;have hib:O<=1000:=by omega
      clear hu bF D;go_wp2;go_round
      case rel=>exact⟨O+1,S2,by omega,by go_num,rfl,aw⟩
      case measure=>simp[intOf];omega
     .have bg:¬(O:Int)<(L.length:Int):=by omega
      have s2:m.cell? ⟨w.heap.size+1,2,none⟩=some (.bool n.ord):=by rw[I.out.1.nbox.cell];exact d.out.2.2.1
      have a6:Hid (printF ns (f+1) i=S++(41::(if n.ord=true then[33]else[]))):=hid (by rw[G.out,ai.out,<-aj.out.1,HS.out,Q0 (by omega)]);have hSb:S.length<=b:=by have:=bD.out.1;omega
      have r1:=zad S [41] (by simp;omega);have r2:=zad S [41,33] (by simp;omega);obtain⟨S1,am⟩:=ex (S++[41])
      obtain⟨S2,D⟩:=ex (S++[41,33])
      rw[am]at r1;rw[D]at r2;have HB:=hid I.out.1.below;obtain⟨o,J⟩:=ex n.ord
      rw[J]at s2;cases o with
      |true=>
       have aS:Hid (printF ns (f+1) i=S2):=hid (by rw[a6.out,J,<-D];rfl);clear J am D;go_wp2;go_ret;exact⟨by rw[aS.out]<;>rfl,HB.out⟩
      |false=>
       have aS:Hid (printF ns (f+1) i=S1):=hid (by rw[a6.out,J,<-am];rfl);clear J am D;go_wp2;go_ret;exact⟨by rw[aS.out]<;>rfl,HB.out⟩
structure TM (w wr:World) (gc:Array Value) (v:Value) (L:List K4):Prop where
 below:Below w.heap.size w wr
 gbox:Blk wr w.heap.size 24 gc
 own:OwnRow strL wr (w.heap.size+1) 9 v L
 hd:w.heap.size+1<=wr.heap.size
section
variable {w wr w2:World} {gc:Array Value} {v v':Value} {L L':List K4}
theorem TM.later (h:TM w wr gc v L) (hb:Below wr.heap.size wr w2):TM w w2 gc v L:=
 ⟨h.below.trans (hb.mono h.below.size),h.gbox.below hb h.gbox.lt,h.own.later hb,K6 h.hd hb.size⟩
theorem TM.alloc (h:TM w wr gc v L) (o:Obj):TM w (wr.alloc o) gc v L:=h.later ((K0 _ _).alloc (K1 _) _)
theorem TM.grown (h:TM w wr gc v L) (ho:OwnRow strL w2 (w.heap.size+1) 9 v' L') (hg:wr.grownBy w2 v.ownBlock):TM w w2 gc v' L':=
 ⟨h.below.trans ((h.own.grown_below hg h.hd).mono (by omega)),zbk h.gbox h.own hg (by omega),ho,K6 h.hd (h.own.grown_below hg h.hd).size⟩
theorem TM.none (h:TM w wr gc v L):TM w wr gc (.slice none 0 0) []:=⟨h.below,h.gbox,Y1,h.hd⟩
end
theorem zoc (A:Option Addr) (c:Nat) (root:Int) (vs:List NV) (ns:List Q2) (P:Nat->Prop) (F b:Nat) (hok:PrOk ns P F b) (hnl:ns.length<=1000) (hks:∀n∈ns,∀k∈n.keys,k<ns.length/\P k/\Tall' ns F k) (w:World) (h:GAt w w.heap.size A vs ns):
 Calls prog 37 #[.agg #[.slice A ns.length c,.int .i64 root]] w fun e w'=>e=.returned (.bool (rtwice ns F))/\Below w.heap.size w w':=by
 have H:=hid h;have aq:=hid (zob A c root vs ns P F b hok hnl);have ac:=hid hok;obtain⟨gc,p⟩:∃gc:Array Value,#[.slice A ns.length c,.int .i64 root]=gc:=⟨_,rfl⟩
 have m:Hid (gc[0]? =some (.slice A ns.length c)/\gc[1]? =some (.int .i64 root)):=hid (by rw[<-p];exact⟨rfl,rfl⟩);obtain⟨w1,r⟩:=ex (w.alloc (.cells #[.slice A ns.length c,.int .i64 root] 24))
 have aj:Hid (TM w w1 gc (.slice none 0 0) []):=hid (by rw[<-r,<-p];exact⟨(K0 _ _).alloc (K1 _) _,K5 _ _ _,Y1,by simp⟩);clear h hok p;go_enter func37,ntmps37;go_upto_region 2 with fail;(try rw[r]);clear r;go_loopw [3] (fun s3 wr=>∃i:Nat,i<=ns.length/\s3=.int .i64 i/\Hid (TM w wr gc (.slice none 0 0) []/\∀j,j<i->∀(hj:j<ns.length),dupS (ns[j].keys.map (printF ns F))=false)) (fun s3 _=>ns.length-(intOf s3).toNat)
 case atStart=>exact⟨0,by omega,rfl,hid ⟨aj.out,fun j hj=>by omega⟩⟩
 case round=>
  obtain⟨i,hi,rfl,HI⟩:=hrel;obtain⟨wq,ah⟩:∃wq,wq=wr:=⟨_,rfl⟩
  subst ah;have g0:wq.cell? ⟨w.heap.size,0,none⟩=some (.slice A ns.length c):=by rw[HI.out.1.gbox.cell];exact m.out.1
  by_cases hlt:i<ns.length
  .have aa:(i:Int)<(ns.length:Int):=by omega
   have B:ns[i]∈ns:=K2 hlt;obtain⟨am,S,al⟩:=ac.out.lens _ B;have Q:=hid (hks _ B);obtain⟨z,ks,ap,rfl,D⟩:=H.out.node hlt;obtain⟨ka,kn,kc⟩:=ks;obtain⟨ia,inn,ic⟩:=ap;have X:=hid (zn5 (f:=F) hlt);have U:Hid (dupS (ns[i].keys.map (printF ns F))=false->∀j,j<i+1->∀(hj:j<ns.length),dupS (ns[j].keys.map (printF ns F))=false):=hid (fun h j hj ao=>by
    rcases X5 j i with h1|h1
    .exact HI.out.2 j h1 ao
    .obtain rfl:j=i:=by omega
     exact h)
   obtain⟨n,hn⟩:=ex (ns[i])
   rw[hn]at D am S Q X U;obtain rfl:kn=n.keys.length:=D.kn;have O:Hid (∀W,Below w.heap.size w W->W.cell? {block:=(z.add (i*5)).block,off:=(z.add (i*5)).off+3}=some (.slice ka n.keys.length kc)):=hid (fun W hW=>(hW.cell (by exact D.lt)).trans D.c3);have an:Hid (∀W,Below w.heap.size w W->RowAt intL W w.heap.size ka n.keys):=hid (fun W hW=>D.keys.below hW);have hib:i<=1000:=by omega
   clear D hn B S al;go_upto_region 6 with fail;go_loopw [4,5] (fun s4 s5 wr=>∃(k:Nat) (L:List K4) (AL:Option Addr) (cL:Nat),k<=n.keys.length/\s5=.int .i64 k/\s4=.slice AL L.length cL/\Hid (TM w wr gc (.slice AL L.length cL) L/\L=(n.keys.map (printF ns F)).take k/\((n.keys.map (printF ns F)).take k).Nodup)) (fun _ s5 _=>n.keys.length-(intOf s5).toNat)
   case atStart=>exact⟨0,[],none,0,by omega,rfl,rfl,hid ⟨HI.out.1,by simp,by simp⟩⟩
   case round=>
    obtain⟨k,L,AL,cL,hk,rfl,rfl,d⟩:=hrel;obtain⟨a,ak⟩:∃a,a=wr:=⟨_,rfl⟩
    subst ak;have g0:a.cell? ⟨w.heap.size,0,none⟩=some (.slice (some z) ns.length c):=by rw[d.out.1.gbox.cell];exact m.out.1
    have c3:=O.out a d.out.1.below;have hkb:k<=1000:=by omega
    by_cases hlk:k<n.keys.length
    .have ab:(k:Int)<(n.keys.length:Int):=by omega
     obtain⟨y,hy⟩:=ex (n.keys[k])
     obtain⟨N,rfl,_,y0⟩:=zaf (an.out a d.out.1.below) hlk;rw[hy]at y0;obtain⟨E,K,Y⟩:=Q.out y (by rw[<-hy];exact K2 hlk);obtain⟨t,ht⟩:=ex (printF ns F y)
     have s:Hid (k<(n.keys.map (printF ns F)).length):=hid (by simpa using hlk);have q:Hid (∀h:k<(n.keys.map (printF ns F)).length,(n.keys.map (printF ns F))[k]=t):=hid (fun h=>by rw[List.getElem_map,hy,ht]);have V:Hid (∀x:WB a.heap.size a,Calls prog 52 #[.agg #[.slice (some z) ns.length c,.int .i64 root],.int .i64 y] x.w fun e w'=>e=.returned (.string ⟨t.toArray⟩)/\Below a.heap.size a w'):=hid (fun x=>by
      have hb:=(d.out.1.later x.h).below;rw[<-ht];exact(aq.out F y x.w (K1 _) E K Y ((H.out.below hb).more hb.size)).mono (fun _ _ ⟨e1,e2⟩=>⟨e1,x.h.trans (e2.mono x.h.size)⟩))
     have q0:∀x:WB a.heap.size a,x.w.cell? ⟨w.heap.size,0,none⟩=some (.slice (some z) ns.length c):=fun x=>by rw[(d.out.1.later x.h).gbox.cell];exact m.out.1
     have q1:∀x:WB a.heap.size a,x.w.cell? ⟨w.heap.size,1,none⟩=some (.int .i64 root):=fun x=>by rw[(d.out.1.later x.h).gbox.cell];exact m.out.2
     have q3:∀x:WB a.heap.size a,x.w.cell? {block:=(z.add (i*5)).block,off:=(z.add (i*5)).off+3}=some (.slice (some N) n.keys.length kc):=fun x=>O.out x.w (d.out.1.later x.h).below
     have qy:∀x:WB a.heap.size a,x.w.cell? (N.add k)=some (.int .i64 (y:Int)):=fun x=>(x.h.cell (Q8 a _ y0)).trans y0
     clear hy E K Y y0 ht;go_upto_region 8 with fail;refine zac a.heap.size a (by kernel_rfl) (by kernel_rfl) (K0 _ _) ?_
     repeat (go_big_quiet_step (((first| (with_reducible refine Y2 (V.out _))))))
     refine wpQuiet_nil ?_;rintro _ ⟨T,rfl⟩;obtain⟨w8,o⟩:=ex T.w
     have l:Hid (TM w w8 gc (.slice AL L.length cL) L):=hid (by rw[<-o];exact d.out.1.later T.h);(try rw[o]);clear o q0 q1 q3 qy g0 c3 V;have hLb:L.length<=1000:=by rw[d.out.2.1,List.length_take];omega
     go_upto_region 10 with fail;go_loop [7] (fun s7=>∃j:Nat,j<=L.length/\s7=.int .i64 j/\Hid (t∉L.take j)) (fun s7=>L.length-(intOf s7).toNat)
     case atStart=>exact⟨0,by omega,rfl,hid (by simp)⟩
     case round=>
      obtain⟨j,hj,rfl,HJ⟩:=hrel;by_cases hlj:j<L.length
      .have I:(j:Int)<(L.length:Int):=by omega
       obtain⟨u,G⟩:=ex (L[j])
       obtain⟨adl,rfl,_,l0⟩:=zv7 (zmb l.out.own) hlj;rw[G]at l0;have hjb:j<=1000:=by omega
       by_cases hut:u=t
       .have ag:((⟨u.toArray⟩:ByteArray)==⟨t.toArray⟩)=true:=by rw[zp7];exact qqk hut
        have ai:(@BEq.beq (List UInt8) _ u t)=true:=by rw[hut];exact beq_self_eq_true _
        have HF:Hid (rtwice ns F=true):=hid (X.out (zx3 s.out (by
         rw[q.out,<-hut,<-G,<-d.out.2.1];exact K2 hlj)))
        clear G hut;go_wp2;go_ret;exact⟨by rw[HF.out]<;>rfl,l.out.below⟩
       .have ag:((⟨u.toArray⟩:ByteArray)==⟨t.toArray⟩)=false:=by rw[zp7];exact qqx hut
        have ai:(@BEq.beq (List UInt8) _ u t)=false:=by rw[qqq];exact hut
        have HN:Hid (t∉L.take (j+1)):=hid (by
         rw[K3 hlj,G];intro hm;rcases List.mem_append.1 hm with h1|h1
         .exact HJ.out h1
         .exact hut (List.mem_singleton.1 h1).symm)
        clear G hut;go_wp2;go_round
        case rel=>exact⟨j+1,by omega,by go_num,HN⟩
        case measure=>simp[intOf];omega
      .have I:¬(j:Int)<(L.length:Int):=by omega
       have af:Hid (t∉L):=hid (by have:=HJ.out;rwa[Q0 (by omega)]at this);have C:Hid (w.heap.size+1<=w8.heap.size):=hid l.out.hd;have Z:Hid (L++[t]=(n.keys.map (printF ns F)).take (k+1)/\((n.keys.map (printF ns F)).take (k+1)).Nodup):=hid ⟨by rw[K3 s.out,q.out,<-d.out.2.1],zk1 s.out d.out.2.2 (by rw[q.out,<-d.out.2.1];exact af.out)⟩;go_wp2_with (at_builtin;go_must (refine zab _ rfl (.tmp 49) (.tmp 51) 76 9 16 rfl strT (w.heap.size+1) (.slice AL L.length cL) L rfl (l.out.own.alloc _) _ _ 1 [t] rfl (Y6 _ _ rfl _ ?_) ?_ ?_ ?_))
       any_goals (first|rfl| (have:=C.out;omega)| (have:=C.out;simp;omega)| (rw[K8];have:=C.out;omega))
       intro v' w5 g hg ae;have R:Hid (TM w w5 gc v' (L++[t])):=hid ((l.out.alloc _).grown g hg);obtain⟨A5,c5,M,_⟩:=g.form;obtain⟨L5,J⟩:=ex (L++[t])
       rw[J]at R Z M;subst M;clear g hg ae J;go_wp2;go_roundw
       case rel=>exact⟨k+1,L5,A5,c5,by omega,by go_num,rfl,hid ⟨R.out,Z.out⟩⟩
       case measure=>simp[intOf];omega
    .have ab:¬(k:Int)<(n.keys.length:Int):=by omega
     have HE:Hid (TM w a gc (.slice none 0 0) []/\∀j,j<i+1->∀(hj:j<ns.length),dupS (ns[j].keys.map (printF ns F))=false):=hid ⟨d.out.1.none,U.out (zzk (k:=k) (by simp;omega) d.out.2.2)⟩;go_wp2;go_roundw
     case rel=>exact⟨i+1,by omega,by go_num,HE⟩
     case measure=>simp[intOf];omega
  .have aa:¬(i:Int)<(ns.length:Int):=by omega
   have HF:Hid (rtwice ns F=false):=hid (zr4 (i:=i) (by omega) HI.out.2);have HB:=hid HI.out.1.below;go_wp2;go_ret;exact⟨by rw[HF.out]<;>rfl,HB.out⟩
end Go.Proofs.YtpgmfihonmoliabGreatDoor

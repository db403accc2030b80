import Derived.Test.YtoigpackhninoaaGreatDoorZ13
namespace Go.Proofs.YtoigpackhninoaaGreatDoor
open Gr
open _root_.Go.Proofs.Tryz
open _root_.Go.Lib (hid)
set_option maxRecDepth 100000
set_option maxHeartbeats 16000000
open Go.RowKit
def zpx (sclr:Int->Gr.Str->Bool) (l:List GArg) (w:World) (e:Ending) (w':World):Prop:=
 Below w.heap.size w w'/\(l.any (fun x=>x.chk sclr != 0)=true->e=.returned (.tuple #[gZero,.int .i64 3]))/\(l.any (fun x=>x.chk sclr != 0)=false->
  (checkG sclr (listN (l.map GArg.p)) 0≠0->e=.returned (.tuple #[gZero,.int .i64 (checkG sclr (listN (l.map GArg.p)) 0:Nat)]))/\
  (checkG sclr (listN (l.map GArg.p)) 0=0->∃A c vs,e=.returned (.tuple #[.agg #[.slice A (listN (l.map GArg.p)).length c,.int .i64 0],.int .i64 0])/\GAt w' w'.heap.size A vs (listN (l.map GArg.p))))
def ArgsOk (sclr:Int->Gr.Str->Bool) (w:World) (l:List GArg):Prop:=∀x∈l,ChkOk w x.v (x.chk sclr)
theorem zid {α:Type} (f:α->Bool) (l:List α) (k:Nat) (hk:k<l.length) (h:f l[k]=true):l.any f=true:=List.any_eq_true.2 ⟨_,List.getElem_mem hk,h⟩
theorem zpy (T:World->Prop) (hT:Stays T) (sclr:Int->Gr.Str->Bool) (A:Option Addr) (c:Nat) (l:List GArg) (hl:l.length<=100000) (hks:∀x∈l,NH (x.is.map Gr.Ni.nd)) (hsc:∀x∈l,ScalsOk T sclr (x.is.map Gr.Ni.nd)) (w:World) (hTw:T w) (h:GsAt w w.heap.size A l) (hck:ArgsOk sclr w l)
 (hck2:l.any (fun x=>x.chk sclr != 0)=false->∀W A c vs,T W->GAt W W.heap.size A vs (listN (l.map GArg.p))->ChkOk W (.agg #[.slice A (listN (l.map GArg.p)).length c,.int .i64 0]) (checkG sclr (listN (l.map GArg.p)) 0)):
 Calls prog 19 #[.slice A l.length c] w (zpx sclr l w):=by
 obtain⟨w1,hw1⟩:=ex (w.alloc (.cells #[.slice none 0 0,.int .i64 0] 24))
 obtain⟨gb,hgb⟩:=ex w.heap.size
 have hs1:w1.heap.size=gb+1:=by rw[<-hw1,<-hgb];simp
 have l1:Below gb w w1:=by rw[<-hw1,<-hgb];exact(Below.refl _ _).alloc (Nat.le_refl _) _
 have b1:Blk w1 gb 24 #[.slice none 0 0,.int .i64 0]:=by rw[<-hw1,<-hgb];exact Blk.new _ _ _
 obtain⟨w2,hw2⟩:=ex (w1.alloc (.cells #[.int .i64 9,.string ⟨#[]⟩,.bool false,.slice none 0 0,.slice none 0 0] 35))
 have l2:Below (gb+1) w1 w2:=by rw[<-hw2];exact(Below.refl _ _).alloc (by omega) _
 have b2:Blk w2 (gb+1) 35 #[.int .i64 9,.string ⟨(([]:Gr.Str)).toArray⟩,.bool false,.slice none 0 0,.slice none 0 0]:=by rw[<-hw2,<-hs1];exact Blk.new _ _ _
 have ht2:=Tab.one (B:=gb+1) b2 (Nat.le_refl _);have hl2:Below gb w w2:=l1.trans (l2.mono (by omega));have HT2:=hid ht2;have HL2:=hid hl2;have HG2:Hid (GsAt w2 gb A l):=hid (by have:=h.below (by rw[hgb];exact hl2);rwa[hgb]at this);have HC2:Hid (ArgsOk sclr w2 l):=hid (fun x hx=>(hck x hx).later (by rw[hgb];exact hl2));have HB2:Hid (Blk w2 gb 24 #[.slice none 0 0,.int .i64 0]):=hid (b1.below l2 (by omega));have HTW:Hid (∀W,Below gb w W->T W):=hid (fun W hW=>hT _ _ hTw (by rw[hgb];exact hW));have HS2:Hid (w2.heap.size=gb+2):=hid (by rw[<-hw2];simp[hs1]);have HGB:=hid hgb;have HKS:=hid hks;have HSC:=hid hsc;have HCK:=hid hck2;clear hTw h hck hck2 hks hsc l1 l2 b1 b2 ht2 hl2;go_enter func19,ntmps19;go_upto_region 1 with fail;(try rw[hw1]);(try rw[hgb]);go_upto_region 2 with fail;(try rw[hw2]);(try rw[hs1]);clear hw1 hgb hw2 hs1;go_upto_region 3 with fail;go_loopw [14] (fun s14 wr=>∃(j:Nat),j<=l.length/\s14=.int .i64 j/\Hid ((l.take j).any (fun x=>x.chk sclr != 0)=false/\Below w2.heap.size w2 wr)) (fun s14 _=>l.length-(intOf s14).toNat)
 case atStart=>exact⟨0,by omega,rfl,hid ⟨rfl,Below.refl _ _⟩⟩
 case round=>
  obtain⟨j,hj,rfl,HW⟩:=hrel;obtain⟨wq,hwq⟩:∃wq,wq=wr:=⟨_,rfl⟩
  subst hwq;have hb0:=HB2.out.below HW.out.2 HB2.out.lt;have HB0:=hid hb0;by_cases hlt:j<l.length
  ·have hltI:(j:Int)<(l.length:Int):=by omega
   obtain⟨ad,rfl,hadb,a0,a1⟩:=zqt (HG2.out.below (HW.out.2.mono (by have:=HS2.out;omega))).row hlt;obtain⟨x,hx⟩:=ex (l[j])
   have hxm:x∈l:=by rw[<-hx];exact List.getElem_mem hlt
   have HTJ:Hid ((l.take (j+1)).any (fun x=>x.chk sclr != 0)=((l.take j).any (fun x=>x.chk sclr != 0) || x.chk sclr != 0)):=hid (by rw[List.take_succ_eq_append_getElem hlt,List.any_append,hx];simp);have HANY:Hid (x.chk sclr≠0->l.any (fun x=>x.chk sclr != 0)=true):=hid (fun h=>zid _ l j hlt (by rw[hx];simpa using h));rw[hx]at a0 a1;obtain⟨ck,hck⟩:=ex (x.chk sclr)
   have HCX:Hid (ChkOk wq (.agg #[.slice x.a x.is.length x.c,.int .i64 x.root]) ck):=hid (by rw[<-hck];exact(HC2.out x hxm).later HW.out.2);rw[hck]at HTJ HANY;clear hx hck hb0;obtain⟨w6,hw6⟩:=ex (wq.alloc (.cells #[.slice x.a x.is.length x.c,.int .i64 x.root] 24))
   obtain⟨nb,hnb⟩:=ex wq.heap.size
   have l6:Below nb wq w6:=by rw[<-hw6,<-hnb];exact(Below.refl _ _).alloc (Nat.le_refl _) _
   have b6:Blk w6 nb 24 #[.slice x.a x.is.length x.c,.int .i64 x.root]:=by rw[<-hw6,<-hnb];exact Blk.new _ _ _
   obtain⟨c0,c1⟩:=cells2 b6;have hnbs:w2.heap.size<=nb:=by rw[<-hnb];exact HW.out.2.size
   have HL6:Hid (Below w2.heap.size w2 w6):=hid (HW.out.2.trans (l6.mono hnbs));have HCY:Hid (ChkOk w6 (.agg #[.slice x.a x.is.length x.c,.int .i64 x.root]) ck):=hid (HCX.out.later (by rw[hnb];exact l6));have HB6:Hid (Blk w6 gb 24 #[.slice none 0 0,.int .i64 0]):=hid (HB2.out.below HL6.out HB2.out.lt);clear l6 b6 hnbs;go_upto_region 5 with fail;(try rw[hw6]);(try rw[hnb]);clear hw6 hnb a0 a1;go_wp2_with fail;refine(HCY.out w6 (Below.refl _ _)).mono ?_;rintro e w7 ⟨rfl,hb7⟩;have hs62:=HL6.out.size;have hb27:=HL6.out.trans (hb7.mono hs62);have HL7:=hid hb27;have hbx:=HB2.out.below hb27 HB2.out.lt;have HBX:=hid hbx;obtain⟨d0,d1⟩:=cells2 hbx;have df:∀i,w7.frozen? ⟨gb,i,none⟩=false:=hbx.frozen;clear hb7 hb27 hbx hs62 c0 c1;by_cases h0:ck=0
   ·subst h0;go_wp2;go_roundw
    case rel=>exact⟨j+1,by omega,by go_num,hid ⟨by rw[HTJ.out,HW.out.1];rfl,HL7.out⟩⟩
    case measure=>simp[intOf];omega
   ·have h0I:((ck:Int)==0)=false:=by rw[beq_eq_false_iff_ne];omega
    have HAN:=hid (HANY.out h0);go_wp2_with fail;refine bodyPost_ret (v:=.tuple #[gZero,.int .i64 3]) (by rw[results_cell_tmp rfl];go_simp;rfl) rfl (And.intro ?_ (And.intro (fun _=>rfl) (fun hf=>?_)))
    ·rw[HGB.out];exact((HL2.out.trans (HL7.out.mono (by have:=HS2.out;omega))).setCell (by simp) _).setCell (by simp) _
    ·rw[HAN.out]at hf;cases hf
  ·have hltI:¬(j:Int)<(l.length:Int):=by omega
   have HALL:Hid (l.any (fun x=>x.chk sclr != 0)=false):=hid (by have:=HW.out.1;rwa[List.take_of_length_le (by omega)]at this);have HT0:Hid (Tab (gb+1) wq (.slice (some ⟨gb+1,0,none⟩) 1 1) [⟨9,[],false,SV.nil,SV.nil⟩] [⟨9,[],false,[],[]⟩]/\Below (gb+1) w2 wq):=hid ⟨HT2.out.later HW.out.2,HW.out.2.mono (by have:=HS2.out;omega)⟩;clear hb0 HW HB0;go_upto_region 9 with fail;go_loopw [4,25] (fun s4 s25 wr=>∃(j:Nat) (A1:Option Addr) (n1 c1:Nat) (vs1:List NV),j<=l.length/\s25=.int .i64 j/\s4=.slice A1 n1 c1/\Hid (Tab (gb+1) wr (.slice A1 n1 c1) vs1 (listN ((l.take j).map GArg.p))/\Below (gb+1) w2 wr/\(listN ((l.take j).map GArg.p)).length<=1+j*4096/\0<(listN ((l.take j).map GArg.p)).length/\∀m,(listN ((l.take j).map GArg.p)).head?=some m->m.items.length<=j)) (fun _ s25 _=>l.length-(intOf s25).toNat)
   case atStart=>exact⟨0,_,_,_,_,by omega,rfl,rfl,hid ⟨HT0.out.1,HT0.out.2,by simp[listN],by simp[listN],by simp[listN]⟩⟩
   case round=>
    clear hlt hltI hj;clear HT0;obtain⟨j,A1,n1,c1,vs1,hj,rfl,rfl,HV⟩:=hrel;obtain⟨wp,hwp⟩:∃wp,wp=wr:=⟨_,rfl⟩
    subst hwp;have hbk:Below gb w wp:=HL2.out.trans (HV.out.2.1.mono (by omega));have HBK:=hid hbk;have HB0:=hid (HB2.out.below HV.out.2.1 (by omega));clear hbk;by_cases hlt:j<l.length
    ·have hltI:(j:Int)<(l.length:Int):=by omega
     have HGX:=hid (HG2.out.below (HV.out.2.1.mono (by omega)));obtain⟨ad,rfl,hadb,a0,a1⟩:=zqt HGX.out.row hlt;obtain⟨x,hx⟩:=ex (l[j])
     have hxm:x∈l:=by rw[<-hx];exact List.getElem_mem hlt
     rw[hx]at a0 a1;have hck0:x.chk sclr=0:=by
      have:=HALL.out;rw[List.any_eq_false]at this;have:=this x hxm;simpa using this
     obtain⟨hn1,hn2,hin⟩:=ztu hck0;obtain⟨r,hr,hrl,hr0,hrf⟩:=ztv hin;rw[hr]at a1;obtain⟨ns,hns⟩:=ex (listN ((l.take j).map GArg.p))
     obtain⟨gs,hgs⟩:=ex (x.is.map Gr.Ni.nd)
     have hgl:x.is.length=gs.length:=by rw[<-hgs];simp
     have HSTEP:Hid (listN ((l.take (j+1)).map GArg.p)=push0 (r+ns.length) (ns++gs.map (shN ns.length))):=hid (by
      rw[List.take_succ_eq_append_getElem hlt,hx,List.map_append];unfold listN at hns ⊢;rw[List.foldl_append,hns];show lstep ns x.p=_;unfold lstep GArg.p;rw[hgs,hr,Int.toNat_natCast])
     have hgat:=(HGX.out.each x hxm).toG hr0;rw[hgs]at hgat hrf;have hnh:=HKS.out x hxm;rw[hgs]at hnh;rw[hns]at HV;rw[hgl]at a0;have hVL:=HV.out.2.2.1;have hV0:=HV.out.2.2.2.1;have HVM:=hid HV.out.2.2.2.2;obtain⟨w6,hw6⟩:=ex (wp.alloc (.cells #[.slice x.a gs.length x.c,.int .i64 r] 24))
     obtain⟨nb,hnb⟩:=ex wp.heap.size
     have l6:Below nb wp w6:=by rw[<-hw6,<-hnb];exact(Below.refl _ _).alloc (Nat.le_refl _) _
     have b6:Blk w6 nb 24 #[.slice x.a gs.length x.c,.int .i64 r]:=by rw[<-hw6,<-hnb];exact Blk.new _ _ _
     obtain⟨z0,z1⟩:=cells2 b6;have hnbg:gb+2<=nb:=by rw[<-hnb];have:=HS2.out;have:=HV.out.2.1.size;omega
     have hap:=zhd (gb+1) x.a x.c r x.vs gs (.slice A1 n1 c1) vs1 ns (by omega) (by omega) hnh hrf (by omega) w6 ((hgat.below (l6.mono (by omega))).more (by omega)) (HV.out.1.later (by rw[hnb];exact l6)) (by have:=b6.lt;omega);have HAP:=hid hap;have HL6:=hid (l6.mono (show gb+1<=nb by omega));have HLE:Hid (ns.length<=1+j*4096/\gs.length<=4096/\0<ns.length/\gb+2<=w6.heap.size):=hid ⟨hVL,by omega,hV0,by have:=b6.lt;omega⟩;clear l6 b6 hap hgat hnh hrf hn1 hn2 hin hrl hr0 hck0 hgl hgs hns hx hxm hr hnbg hVL hV0;go_upto_region 12 with fail;(try rw[hw6]);(try rw[hnb]);clear hw6 hnb a0 a1;go_wp2_with fail;refine HAP.out.mono ?_;rintro e w7 ⟨v7,vs7,rfl,ht7,hb7⟩;have hne7:vs7≠[]:=by
      intro e;have:=ht7.rows.len;rw[e]at this;have:=HLE.out.2.2.1;simp at *;omega
     obtain⟨g,cap,rest,hv7,hcap,hbk7,hbg,_⟩:=ht7.row.row hne7;obtain⟨nn,hnn⟩:=ex vs7.length
     rw[hnn]at hv7 hcap;subst hv7;obtain⟨x0,vl,rfl⟩:∃x0 vl,vs7=x0::vl:=by cases vs7 with
      |nil=>exact absurd rfl hne7
      |cons a b=>exact⟨a,b,rfl⟩
     have hlen7:=ht7.rows.len;obtain⟨m,nl,hml⟩:∃m nl,ns++gs.map (shN ns.length)=m::nl:=by
      cases h:ns++gs.map (shN ns.length)with
      |nil=>rw[h]at hlen7;cases hlen7
      |cons a b=>exact⟨a,b,rfl⟩
     have hnn0:0<nn:=by rw[<-hnn];simp
     have hnn0I:(0:Int)<(nn:Int):=by omega
     have HNN:Hid (nn=ns.length+gs.length):=hid (by rw[<-hnn,hlen7];simp);rw[hml]at ht7;have HML:=hid hml;have HT7:=hid ht7;have HBK7:=hid hbk7;have HBG:=hid hbg;have HB7:=hid hb7;have HCAP:=hid hcap;have k4:w7.cell? ⟨g,4,none⟩=some (.slice x0.i.a x0.i.n x0.i.c):=hbk7.cell 4;have hi0:OwnRow intL w7 (gb+1) 3 (.slice x0.i.a x0.i.n x0.i.c) m.items:=ht7.rows.own 0 true;have HI0:=hid hi0;have HI0L:Hid (m.items.length<=j):=hid (HVM.out m (by
      have h2:=HML.out;cases hns:ns with
      |nil=>have:=HLE.out.2.2.1;rw[hns]at this;simp at this
      |cons a b=>rw[hns]at h2;simp at h2;simp[h2.1]))
     obtain⟨k,hk⟩:=ex (r+ns.length)
     have hkI:(r:Int)+(ns.length:Int)=(k:Int):=by omega
     rw[hk]at HSTEP;rw[hkI];clear ht7 hbk7 hbg hb7 hml hlen7 hne7 hi0 hcap hnn hk hkI z0 z1;go_upto_region 13 with fail;go_wp2_with (at_builtin;go_must (refine zac _ rfl (.tmp 39) (.tmp 41) 33 3 8 rfl intT (gb+1) (.slice x0.i.a x0.i.n x0.i.c) m.items rfl (HI0.out.alloc _) _ _ 1 [k] rfl (RowAt.lit1 _ _ rfl _ ?_) ?_ ?_ ?_))
     any_goals (first|rfl| (have:=HI0L.out;have:=HB7.out.size;have:=HLE.out.2.2.2;simp;omega))
     intro v8 w8 hown hg hat;obtain⟨A8,c8,hv8,_⟩:=hown.form;obtain⟨q,hq⟩:=ex ((m.items++[k]).length)
     rw[hq]at hv8;subst hv8;clear hq;obtain⟨i,hi,hT8,hK8,hB8⟩:=(HT7.out.later ((Below.refl w7.heap.size w7).alloc (Nat.le_refl _) _)).push hown hg (by rw[World.size_alloc];exact hat);have hkN:KeptT 35 w7 w8:=(KeptT.alloc _ _ _).trans (KeptT.grown hg (HI0.out.alloc _) (by decide));have hb8:=hkN _ _ HBK7.out;have k40:w8.cell? ⟨g,4,none⟩=some (.slice x0.i.a x0.i.n x0.i.c):=hb8.cell 4;have k4f:∀i,w8.frozen? ⟨g,i,none⟩=false:=hb8.frozen;obtain⟨w9,hw9⟩:=ex (w8.setCell ⟨g,4,none⟩ (.slice A8 q c8))
     rw[hw9]at hT8 hB8;have hb79:=hB8 (by rw[World.size_alloc];have:=HB7.out.size;have:=HLE.out.2.2.2;omega);have hb29:Below (gb+1) w2 w9:=((((HV.out.2.1.trans HL6.out).trans HB7.out).alloc (by have:=HB7.out.size;have:=HLE.out.2.2.2;omega) _).trans hb79)
     have HNX:Hid (Tab (gb+1) w9 (.slice (some ⟨g,0,none⟩) nn cap) ({x0 with i:=i}::vl) (listN ((l.take (j+1)).map GArg.p))/\Below (gb+1) w2 w9/\(listN ((l.take (j+1)).map GArg.p)).length<=1+(j+1)*4096/\0<(listN ((l.take (j+1)).map GArg.p)).length/\∀m,(listN ((l.take (j+1)).map GArg.p)).head?=some m->m.items.length<=j+1):=hid (by
      rw[HSTEP.out,HML.out];have hml:=congrArg List.length HML.out;simp only[List.length_append,List.length_map,List.length_cons]at hml;have h1:=HLE.out;refine⟨hT8,hb29,?_,?_,?_⟩
      ·simp only[push0,List.length_cons];omega
      ·simp[push0]
      ·intro m' hm';simp[push0]at hm';subst hm';simp;exact HI0L.out)
     clear hown hg hat hi hT8 hK8 hB8 hkN hb8 hb79 hb29 k4;go_wp2_with fail;(try rw[hw9]);(try clear hw9);go_roundw
     case rel=>exact⟨j+1,some ⟨g,0,none⟩,nn,cap,_,by omega,by go_num,rfl,HNX⟩
     case measure=>simp[intOf];omega
    ·have hltI:¬(j:Int)<(l.length:Int):=by omega
     have hje:j=l.length:=by omega
     have htk:l.take j=l:=List.take_of_length_le (by omega);rw[htk]at HV;obtain⟨ns,hns⟩:=ex (listN (l.map GArg.p))
     rw[hns]at HV;obtain⟨A9,c9,hv9,hg9⟩:=HV.out.1.at_;injection hv9 with e1 e2 e3
     subst e1 e2 e3;obtain⟨ck,hck⟩:=ex (checkG sclr ns 0)
     have HCF:=hid (HCK.out HALL.out);rw[hns,hck]at HCF;have HNS:Hid (listN (l.map GArg.p)=ns/\checkG sclr ns 0=ck):=hid ⟨hns,hck⟩;have hc0:ChkOk wp (.agg #[.slice A1 ns.length c1,.int .i64 0]) ck:=HCF.out wp A1 c1 vs1 (HTW.out wp HBK.out) hg9;have hcd:=zic A1 ns.length c1 0 ck wp hc0;unfold gZero at hcd;have HCD:=hid hcd;have HG9:=hid hg9;clear hje htk hns hck hc0 hcd hg9;go_upto_region 15 with fail;go_wp2_with fail;refine HCD.out.mono ?_;rintro e w7 ⟨rfl,hb7⟩;have hbx:=HB0.out.below hb7 HB0.out.lt;have hb07:=HBK.out.trans (hb7.mono (by have:=HB0.out.lt;omega));have HL7:=hid hb07;have HBX:=hid hbx;have HT7:=hid (HV.out.1.later hb7);obtain⟨d0,d1⟩:=cells2 hbx;have df:∀i,w7.frozen? ⟨gb,i,none⟩=false:=hbx.frozen;clear hb7 hbx hb07;by_cases h0:ck=0
     ·subst h0;go_wp2_with fail;have hkk:∀t,t≠24->KeptT t w7 ((w7.setCell ⟨gb,0,none⟩ (.slice A1 ns.length c1)).setCell ⟨gb,1,none⟩ (.int .i64 0)):=fun t ht=>(KeptT.setCell (p:=⟨gb,0,none⟩) HBX.out ht _).trans (KeptT.setCell (p:=⟨gb,1,none⟩) (HBX.out.set_ 0 _) ht _)
      have hb3:=(HBX.out.set_ 0 (.slice A1 ns.length c1)).set_ 1 (.int .i64 0);have e0:=hb3.cell 0;have e1:=hb3.cell 1;have htt:Tab (gb+1) ((w7.setCell ⟨gb,0,none⟩ (.slice A1 ns.length c1)).setCell ⟨gb,1,none⟩ (.int .i64 0)) (.slice A1 ns.length c1) vs1 ns:=⟨HT7.out.row.kept (hkk _ (by decide)),HT7.out.rows.kept (hkk _ (by decide))⟩
      obtain⟨A9,c9,hv9,hg9⟩:=htt.at_;injection hv9 with f1 f2 f3
      subst f1 f3;refine bodyPost_ret (v:=.tuple #[.agg #[.slice A1 ns.length c1,.int .i64 0],.int .i64 0]) (by rw[results_cell_tmp rfl];go_simp) rfl (And.intro ?_ (And.intro (fun hf=>?_) (fun _=>And.intro (fun hf=>?_) (fun _=>?_))))
      ·rw[HGB.out];exact(HL7.out.setCell (by simp) _).setCell (by simp) _
      ·rw[HALL.out]at hf;cases hf
      ·rw[HNS.out.1,HNS.out.2]at hf;exact absurd rfl hf
      ·rw[HNS.out.1];exact⟨A1,c1,vs1,rfl,hg9⟩
     ·have h0I:((ck:Int)==0)=false:=by rw[beq_eq_false_iff_ne];omega
      go_wp2_with fail;have hb3:=(HBX.out.set_ 0 (.slice none 0 0)).set_ 1 (.int .i64 0);have e0:=hb3.cell 0;have e1:=hb3.cell 1;refine bodyPost_ret (v:=.tuple #[gZero,.int .i64 ck]) (by rw[results_cell_tmp rfl];go_simp;rfl) rfl (And.intro ?_ (And.intro (fun hf=>?_) (fun _=>And.intro (fun _=>?_) (fun hf=>?_))))
      ·rw[HGB.out];exact(HL7.out.setCell (by simp) _).setCell (by simp) _
      ·rw[HALL.out]at hf;cases hf
      ·rw[HNS.out.1,HNS.out.2]
      ·rw[HNS.out.1,HNS.out.2]at hf;exact absurd hf h0
def sclU (kind:Int) (text:Gr.Str):Bool:=if kind=0 then text.isEmpty else if kind=2 then intB text else if kind=5 then utfB text else false
def KU (ns:List Gr.Nd):Prop:=∀x∈ns,x.kind=0\/x.kind=2\/x.kind=5\/x.kind=9\/x.kind=10\/x.kind=11
theorem scalsU (ns:List Gr.Nd) (hk:KU ns) (hn:NH ns):ScalsOk UT sclU ns:=by
 intro x hx h9 h10 h11 _ _ _;have hl:=(hn x hx).2.2;rcases hk x hx with h|h|h|h|h|h
 ·rw[h];exact zha x.text
 ·rw[h];exact zdu x.text hl
 ·rw[h];exact zem x.text hl
 ·exact absurd h h9
 ·exact absurd h h10
 ·exact absurd h h11
def nOne:Gr.Nd:=⟨2,[49],false,[],[]⟩
def nA:Gr.Nd:=⟨5,[97],false,[],[]⟩
def nsL:List Gr.Nd:=[⟨9,[],false,[],[1,2]⟩,nOne,nA]
def nsLoop:List Gr.Nd:=[⟨9,[],false,[],[0]⟩]
theorem zn0:checkG sclU nsL 0=0:=by decide+kernel
theorem zn1:checkG sclU nsLoop 0=0:=by decide+kernel
theorem zky:depth nsLoop 0=(0,false):=by decide+kernel
theorem zsp:intB [49]=true:=by decide+kernel
theorem zsq:intB [48,49]=false:=by decide+kernel
theorem zub:utfB [97]=true:=by decide+kernel
theorem zsr:listN [([nOne.ni],0),([nA.ni],0)]=nsL:=by rfl
theorem zpz:checkI sclU [nOne.ni] 0=0:=by decide+kernel
theorem ztw:checkI sclU [nA.ni] 0=0:=by decide+kernel
theorem zbv (ns:List Gr.Nd) (h:(ns.all fun n=>decide (n.keys.length<=1000/\n.items.length<=1000/\n.text.length<=1000))=true):NH ns:=by
 intro n hn;have:=List.all_eq_true.1 h n hn;simp at this;omega
theorem zay (ns:List Gr.Nd) (h:(ns.all fun n=>(n.keys++n.items).all fun r=>decide (r<ns.length))=true):Refs ns:=by
 intro n hn r hr;have:=List.all_eq_true.1 (List.all_eq_true.1 h n hn) r hr;simpa using this
theorem zbj (ns:List Gr.Nd) (h:(ns.all fun n=>n.kind==0 || n.kind==2 || n.kind==5 || n.kind==9 || n.kind==10 || n.kind==11)=true):KU ns:=by
 intro n hn;have:=List.all_eq_true.1 h n hn;simp at this;omega
theorem zbq (A:Option Addr) (c:Nat) (vs:List NV) (ns:List Gr.Nd) (w:World) (hUT:UT w) (h1:NH ns) (h2:KU ns) (h3:Refs ns) (h4:0<ns.length) (h5:ns.length<=1073741823) (h:GAt w w.heap.size A vs ns):ChkOk w (.agg #[.slice A ns.length c,.int .i64 0]) (checkG sclU ns 0):=
 fun W hW=>zsn UT UT.stays sclU A c 0 vs ns h1 (scalsU ns h2 h1) h5 h3 h4 W (UT.stays _ _ hUT hW) ((h.below hW).more hW.size)
theorem zp0 (w:World) (hUT:UT w):ChkOk w gZero 3:=by
 intro W hW;have:=zec UT UT.stays sclU none 0 0 [] [] (by simp[NH]) (by simp[ScalsOk]) (by simp) W (UT.stays _ _ hUT hW) ⟨?_,rfl,fun j h=>by simp at h,fun j h=>by simp at h⟩
 ·exact this
 ·exact(OwnRow.nil (L:=nodeL) (w:=W) (base:=0) (E:=35)).form.elim (fun A h=>by obtain⟨c,h1,h2⟩:=h;injection h1 with e1;subst e1;exact h2)
theorem zep {w:World} {g:Nat} {kind:Int} {text:Gr.Str} (h:Blk w g 35 #[.int .i64 kind,.string ⟨text.toArray⟩,.bool false,.slice none 0 0,.slice none 0 0]):GAt w w.heap.size (some ⟨g,0,none⟩) [⟨kind,text,false,SV.nil,SV.nil⟩] [⟨kind,text,false,[],[]⟩]:=by
 obtain⟨A,c,hv,hg⟩:=(Tab.one (B:=0) h (Nat.zero_le _)).at_;injection hv with e1 e2 e3
 subst e1;exact hg
def argOf (g:Nat) (kind:Int) (text:Gr.Str):GArg:=⟨some ⟨g,0,none⟩,1,0,[⟨kind,text,false,SV.nil,SV.nil⟩],[(⟨kind,text,false,[],[]⟩:Gr.Nd).ni]⟩
open Go.RowKit
theorem zp1 (A:Option Addr) (c g1 g2:Nat) (w:World) (hUT:UT w) (h1:Blk w g1 35 #[.int .i64 2,.string ⟨([49]:Gr.Str).toArray⟩,.bool false,.slice none 0 0,.slice none 0 0]) (h2:Blk w g2 35 #[.int .i64 5,.string ⟨([97]:Gr.Str).toArray⟩,.bool false,.slice none 0 0,.slice none 0 0])
 (hrow:RowAt argL w w.heap.size A [argOf g1 2 [49],argOf g2 5 [97]]):
 Calls Tryz.prog 19 #[.slice A 2 c] w fun e w'=>Below w.heap.size w w'/\∃A3 c3 vs,e=.returned (.tuple #[.agg #[.slice A3 3 c3,.int .i64 0],.int .i64 0])/\GAt w' w'.heap.size A3 vs nsL:=by
 have k1:GArg.chk sclU (argOf g1 2 [49])=0:=zpz;have k2:GArg.chk sclU (argOf g2 5 [97])=0:=ztw;have hn1:NH [nOne]:=zbv _ (by decide);have hn2:NH [nA]:=zbv _ (by decide);have i1:=(zep h1).toI;have i2:=(zep h2).toI;have hlist:listN ([argOf g1 2 [49],argOf g2 5 [97]].map GArg.p)=nsL:=zsr;have hnl:NH nsL:=zbv _ (by decide);have hany:[argOf g1 2 [49],argOf g2 5 [97]].any (fun x=>x.chk sclU != 0)=false:=by simp[k1,k2]
 have h:=zpy UT UT.stays sclU A c [argOf g1 2 [49],argOf g2 5 [97]] (by simp)
  (by
    intro x hx;simp at hx;rcases hx with rfl|rfl
    ·exact hn1
    ·exact hn2)
  (by
    intro x hx;simp at hx;rcases hx with rfl|rfl
    ·exact scalsU [nOne] (zbj _ (by decide)) hn1
    ·exact scalsU [nA] (zbj _ (by decide)) hn2)
  w hUT ⟨hrow,by intro x hx;simp at hx;exact hx.elim (fun e=>e▸i1) (fun e=>e▸i2)⟩
  (by
    intro x hx;simp at hx;rcases hx with rfl|rfl
    ·rw[k1];exact zbq _ _ _ [nOne] w hUT hn1 (zbj _ (by decide)) (zay _ (by decide)) (by decide) (by decide) (zep h1)
    ·rw[k2];exact zbq _ _ _ [nA] w hUT hn2 (zbj _ (by decide)) (zay _ (by decide)) (by decide) (by decide) (zep h2))
  (by
    intro _ W A c vs hW hg;rw[hlist]at hg ⊢;exact zbq _ _ _ nsL W hW hnl (zbj _ (by decide)) (zay _ (by decide)) (by decide) (by decide) hg)
 refine h.mono ?_;rintro e w' ⟨hb,_,hp⟩;refine⟨hb,?_⟩;have hp2:=(hp hany).2;rw[hlist]at hp2;exact hp2 zn0
theorem zp2 {w:World} {g gi:Nat} (h:Blk w g 35 #[.int .i64 9,.string ⟨#[]⟩,.bool false,.slice none 0 0,.slice (some ⟨gi,0,none⟩) 1 1]) (hi:Blk w gi 3 #[.int .i64 0]):∃vs,GAt w w.heap.size (some ⟨g,0,none⟩) vs nsLoop:=by
 have ho:OwnRow intL w 0 3 (.slice (some ⟨gi,0,none⟩) 1 1) [0]:=zde (l:=[0]) hi (Nat.zero_le _) rfl (by decide);have hr:=(Rows.nil 0 w).snoc ⟨9,[],false,SV.nil,⟨some ⟨gi,0,none⟩,1,1⟩⟩ ⟨9,[],false,[],[0]⟩ ⟨rfl,rfl,rfl⟩ OwnRow.nil ho (fun g h=>by simp[SV.nil,SV.v,Value.ownBlock]at h) (fun j b g h=>by simp[ints,SV.nil,SV.v,Value.ownBlock]at h);have ht:Tab 0 w (.slice (some ⟨g,0,none⟩) 1 1) [⟨9,[],false,SV.nil,⟨some ⟨gi,0,none⟩,1,1⟩⟩] nsLoop:=⟨⟨nodeL.all_len _,.inr ⟨g,1,_,rfl,Nat.zero_le _,h,Nat.le_refl _,by decide,rfl,rfl⟩⟩,hr⟩
 obtain⟨A,c,hv,hg⟩:=ht.at_;injection hv with e1 e2 e3
 subst e1;exact⟨_,hg⟩
theorem zp3 {w:World} {A:Option Addr} {c:Nat} {vs:List NV} (h:GAt w w.heap.size A vs nsLoop):DepOk w (.agg #[.slice A 1 c,.int .i64 0]) (0,false):=by
 intro W hW;have:=zgb A c 0 vs nsLoop (zay _ (by decide)) (by decide) (by intro n hn;have:=zbv nsLoop (by decide) n hn;exact⟨this.1,this.2.1⟩) (by decide)
  (by intro v hv;have h0:v=0:=by simp[nsLoop]at hv;omega
      subst h0;exact .refl _) W ((h.below hW).more hW.size)
 rw[zky]at this;exact this
theorem zn2 (w:World) (hUT:UT w):Calls prog 13 #[] w fun e w'=>e=.returned (.bool true)/\Below w.heap.size w w':=by
 have HS1:Hid (∀W,UT W->Calls prog 16 #[.int .i64 2,.string ⟨([49]:Gr.Str).toArray⟩] W fun e w'=>Below W.heap.size W w'/\∃g,W.heap.size<=g/\e=.returned (.tuple #[.agg #[.slice (some ⟨g,0,none⟩) 1 1,.int .i64 0],.int .i64 0])/\Blk w' g 35 #[.int .i64 2,.string ⟨([49]:Gr.Str).toArray⟩,.bool false,.slice none 0 0,.slice none 0 0]):=hid (fun W hW=>(zcd UT UT.stays 2 [49] true (by decide) (by decide) (by rw[<-zsp];exact zdu [49] (by decide)) W hW).mono (by
  rintro e w' ⟨hb,_,h⟩;exact⟨hb,h rfl⟩))
 have HS2:Hid (∀W,UT W->Calls prog 16 #[.int .i64 5,.string ⟨([97]:Gr.Str).toArray⟩] W fun e w'=>Below W.heap.size W w'/\∃g,W.heap.size<=g/\e=.returned (.tuple #[.agg #[.slice (some ⟨g,0,none⟩) 1 1,.int .i64 0],.int .i64 0])/\Blk w' g 35 #[.int .i64 5,.string ⟨([97]:Gr.Str).toArray⟩,.bool false,.slice none 0 0,.slice none 0 0]):=hid (fun W hW=>(zcd UT UT.stays 5 [97] true (by decide) (by decide) (by rw[<-zub];exact zem [97] (by decide)) W hW).mono (by
  rintro e w' ⟨hb,_,h⟩;exact⟨hb,h rfl⟩))
 have HS3:Hid (∀W,UT W->Calls prog 16 #[.int .i64 2,.string ⟨([48,49]:Gr.Str).toArray⟩] W fun e w'=>Below W.heap.size W w'/\e=.returned (.tuple #[.agg #[.slice none 0 0,.int .i64 0],.int .i64 3])):=hid (fun W hW=>(zcd UT UT.stays 2 [48,49] false (by decide) (by decide) (by rw[<-zsq];exact zdu [48,49] (by decide)) W hW).mono (by
  rintro e w' ⟨hb,h,_⟩;exact⟨hb,h rfl⟩))
 have HUT:=hid hUT;clear hUT;go_enter func13,ntmps13;go_upto_region 1 with fail;go_wp2_with fail;refine(HS1.out w HUT.out).mono ?_;rintro e w1 ⟨hb1,g1,hg1,rfl,hk1⟩;go_upto_region 2 with fail;obtain⟨w2,hw2⟩:=ex (w1.alloc (.cells #[.slice (some ⟨g1,0,none⟩) 1 1,.int .i64 0] 24))
 obtain⟨n1,hn1⟩:=ex w1.heap.size
 have HB2:Hid (Below w.heap.size w w2):=hid (by rw[<-hw2];exact hb1.alloc hb1.size _);have HK1:Hid (Blk w2 g1 35 #[.int .i64 2,.string ⟨([49]:Gr.Str).toArray⟩,.bool false,.slice none 0 0,.slice none 0 0]):=hid (by rw[<-hw2];exact hk1.alloc _);have HX1:Hid (Blk w2 n1 24 #[.slice (some ⟨g1,0,none⟩) 1 1,.int .i64 0]):=hid (by rw[<-hw2,<-hn1];exact Blk.new _ _ _);have HU2:=hid (UT.stays _ _ HUT.out HB2.out);clear hb1 hg1 hk1;(try rw[hw2]);(try rw[hn1]);clear hw2 hn1;go_wp2_with fail;refine(HS2.out w2 HU2.out).mono ?_;rintro e w3 ⟨hb3,g2,hg2,rfl,hk2⟩;go_upto_region 3 with fail;obtain⟨w4,hw4⟩:=ex (w3.alloc (.cells #[.slice (some ⟨g2,0,none⟩) 1 1,.int .i64 0] 24))
 obtain⟨n2,hn2⟩:=ex w3.heap.size
 have hb4:Below w2.heap.size w2 w4:=by rw[<-hw4];exact hb3.alloc hb3.size _
 have HB4:=hid (HB2.out.trans (hb4.mono HB2.out.size));have HK14:=hid (HK1.out.below hb4 HK1.out.lt);have hx1:=HX1.out.below hb4 HX1.out.lt;have HK24:Hid (Blk w4 g2 35 #[.int .i64 5,.string ⟨([97]:Gr.Str).toArray⟩,.bool false,.slice none 0 0,.slice none 0 0]):=hid (by rw[<-hw4];exact hk2.alloc _);have hx2:Blk w4 n2 24 #[.slice (some ⟨g2,0,none⟩) 1 1,.int .i64 0]:=by rw[<-hw4,<-hn2];exact Blk.new _ _ _
 have HU4:=hid (UT.stays _ _ HUT.out HB4.out);obtain⟨a0,a1⟩:=cells2 hx1;obtain⟨a2,a3⟩:=cells2 hx2;clear hb3 hg2 hk2 hb4 hx1 hx2;(try rw[hw4]);(try rw[hn2]);clear hw4 hn2;obtain⟨w5,hw5⟩:=ex (w4.alloc (.cells #[.slice (some ⟨g1,0,none⟩) 1 1,.int .i64 0,.slice (some ⟨g2,0,none⟩) 1 1,.int .i64 0] 24))
 obtain⟨n3,hn3⟩:=ex w4.heap.size
 have hb5:Below w4.heap.size w4 w5:=by rw[<-hw5];exact(Below.refl _ _).alloc (Nat.le_refl _) _
 have hrow:RowAt argL w5 w5.heap.size (some ⟨n3,0,none⟩) [argOf g1 2 [49],argOf g2 5 [97]]:=by
  have ho:OwnRow argL w5 0 24 (.slice (some ⟨n3,0,none⟩) 2 2) [argOf g1 2 [49],argOf g2 5 [97]]:=⟨argL.all_len _,.inr ⟨n3,2,_,rfl,Nat.zero_le _,by rw[<-hw5,<-hn3];exact Blk.new _ _ _,Nat.le_refl _,by decide,rfl,rfl⟩⟩
  obtain⟨A,c,hv,hg⟩:=ho.form;injection hv with e1 e2 e3
  subst e1;exact hg
 have HB5:=hid (HB4.out.trans (hb5.mono HB4.out.size));have hl:=zp1 (some ⟨n3,0,none⟩) 2 g1 g2 w5 (UT.stays _ _ HU4.out hb5) (HK14.out.below hb5 HK14.out.lt) (HK24.out.below hb5 HK24.out.lt) hrow;have HL:=hid hl;clear hb5 hrow hl HX1 HK1 HK14 HK24 HS1 HS2;go_wp2_with fail;(try rw[hw5]);(try rw[hn3]);clear hw5 hn3 a0 a1 a2 a3;refine HL.out.mono ?_;rintro e w6 ⟨hb6,A3,c3,vs3,rfl,hg6⟩;go_upto_region 4 with fail;obtain⟨w7,hw7⟩:=ex (w6.alloc (.cells #[.slice A3 3 c3,.int .i64 0] 24))
 obtain⟨n5,hn5⟩:=ex w6.heap.size
 have hb7:Below w6.heap.size w6 w7:=by rw[<-hw7];exact(Below.refl _ _).alloc (Nat.le_refl _) _
 have hb67:=HB5.out.trans (hb6.mono HB5.out.size);have HB7:=hid (hb67.trans (hb7.mono hb67.size));have HG7:Hid (GAt w7 w7.heap.size A3 vs3 nsL):=hid ((hg6.below hb7).more hb7.size);have HX5:Hid (Blk w7 n5 24 #[.slice A3 3 c3,.int .i64 0]):=hid (by rw[<-hw7,<-hn5];exact Blk.new _ _ _);have HU7:=hid (UT.stays _ _ HUT.out HB7.out);clear hb6 hg6 hb7 hb67 HL HB2 HB4 HB5 HU2 HU4;(try rw[hw7]);(try rw[hn5]);clear hw7 hn5;go_wp2_with fail;refine(HS3.out w7 HU7.out).mono ?_;rintro e w8 ⟨hb8,rfl⟩;go_upto_region 5 with fail;obtain⟨w9,hw9⟩:=ex (w8.alloc (.cells #[.slice none 0 0,.int .i64 0] 24))
 obtain⟨n7,hn7⟩:=ex w8.heap.size
 have hb9:Below w7.heap.size w7 w9:=by rw[<-hw9];exact hb8.alloc hb8.size _
 have HB9:=hid (HB7.out.trans (hb9.mono HB7.out.size));have HG9:Hid (GAt w9 w9.heap.size A3 vs3 nsL):=hid ((HG7.out.below hb9).more hb9.size);have HX59:=hid (HX5.out.below hb9 HX5.out.lt);clear hb8 hb9 HG7 HX5 HS3;(try rw[hw9]);(try rw[hn7]);clear hw9 hn7;go_upto_region 6 with fail;obtain⟨s,hs⟩:=ex w9.heap.size
 (try rw[hs]);obtain⟨wa,hwa⟩:=ex (w9.alloc (.cells #[.int .i64 0] 3))
 have ba:Blk wa s 3 #[.int .i64 0]:=by rw[<-hwa,<-hs];exact Blk.new _ _ _
 have la:Below s w9 wa:=by rw[<-hwa,<-hs];exact(Below.refl _ _).alloc (Nat.le_refl _) _
 have sa:wa.heap.size=s+1:=by rw[<-hwa,<-hs];simp
 obtain⟨wb,hwb⟩:=ex (wa.alloc (.cells #[.int .i64 9,.string ⟨#[]⟩,.bool false,.slice none 0 0,.slice (some ⟨s,0,none⟩) 1 1] 35))
 have bb:Blk wb (s+1) 35 #[.int .i64 9,.string ⟨#[]⟩,.bool false,.slice none 0 0,.slice (some ⟨s,0,none⟩) 1 1]:=by rw[<-hwb,<-sa];exact Blk.new _ _ _
 have lb:Below (s+1) wa wb:=by rw[<-hwb];exact(Below.refl _ _).alloc (by omega) _
 have sb:wb.heap.size=s+2:=by rw[<-hwb];simp[sa]
 obtain⟨wc,hwc⟩:=ex (wb.alloc (.cells #[.slice (some ⟨s+1,0,none⟩) 1 1,.int .i64 0] 24))
 have bc:Blk wc (s+2) 24 #[.slice (some ⟨s+1,0,none⟩) 1 1,.int .i64 0]:=by rw[<-hwc,<-sb];exact Blk.new _ _ _
 have lc:Below (s+2) wb wc:=by rw[<-hwc];exact(Below.refl _ _).alloc (by omega) _
 have hbb:Blk wc (s+1) 35 #[.int .i64 9,.string ⟨#[]⟩,.bool false,.slice none 0 0,.slice (some ⟨s,0,none⟩) 1 1]:=bb.below lc (by omega);have hba:Blk wc s 3 #[.int .i64 0]:=(ba.below lb (by omega)).below lc (by omega);have hb9c:Below w9.heap.size w9 wc:=by rw[hs];exact la.trans ((lb.mono (by omega)).trans (lc.mono (by omega)))
 obtain⟨vl,hgl⟩:=zp2 hbb hba;have HGL:=hid hgl;have HBC:=hid (HB9.out.trans (hb9c.mono HB9.out.size));have HG3:Hid (GAt wc wc.heap.size A3 vs3 nsL):=hid ((HG9.out.below hb9c).more hb9c.size);have hx5:=HX59.out.below hb9c HX59.out.lt;have HX5:=hid hx5;have HX9:=hid bc;have HUC:=hid (UT.stays _ _ HUT.out HBC.out);obtain⟨q0,q1⟩:=cells2 bc;have HD:Hid (Calls prog 22 #[.agg #[.slice (some ⟨s+1,0,none⟩) 1 1,.int .i64 0]] wc fun e w'=>e=.returned (.tuple #[.int .i64 0,.bool false])/\Below wc.heap.size wc w'):=hid (by
  have h1:=zbq (some ⟨s+1,0,none⟩) 1 vl nsLoop wc HUC.out (zbv _ (by decide)) (zbj _ (by decide)) (zay _ (by decide)) (by decide) (by decide) hgl;rw[zn1]at h1;exact znz (some ⟨s+1,0,none⟩) 1 1 0 0 (0,false) wc h1 (fun _=>zp3 hgl))
 (try rw[hwa]);(try rw[hwb]);(try rw[hwc]);clear hs hwa ba la sa hwb bb lb sb hwc bc lc hbb hba hb9c hgl hx5 HG9 HX59 HB9 HB7;go_wp2_with fail;refine HD.out.mono ?_;rintro e wd ⟨rfl,hbd⟩;have HBD:=hid (HBC.out.trans (hbd.mono HBC.out.size));have HUD:=hid (UT.stays _ _ HUT.out HBD.out);have hx5:=HX5.out.below hbd HX5.out.lt;have hx9:=HX9.out.below hbd HX9.out.lt;obtain⟨r0,r1⟩:=cells2 hx5;have HX9d:=hid hx9;have HSZ:Hid (Calls prog 21 #[.agg #[.slice A3 3 c3,.int .i64 0]] wd fun e w'=>e=.returned (.int .i64 3)/\Below wd.heap.size wd w'):=hid (by
  have h1:=zbq A3 c3 vs3 nsL wd HUD.out (zbv _ (by decide)) (zbj _ (by decide)) (zay _ (by decide)) (by decide) (by decide) ((HG3.out.below hbd).more hbd.size);rw[zn0]at h1;exact zpw A3 3 c3 0 0 wd h1)
 have HGD:Hid (GAt wd wd.heap.size (some ⟨s+1,0,none⟩) vl nsLoop):=hid ((HGL.out.below hbd).more hbd.size);clear hbd hx5 hx9 HX5 HX9 HGL HG3 q0 q1 HD HBC HUC;go_upto_region 7 with fail;go_wp2_with fail;refine HSZ.out.mono ?_;rintro e we ⟨rfl,hbe⟩;have HBE:=hid (HBD.out.trans (hbe.mono HBD.out.size));have HUE:=hid (UT.stays _ _ HUT.out HBE.out);have hx9:=HX9d.out.below hbe HX9d.out.lt;obtain⟨q0,q1⟩:=cells2 hx9;have HCL:Hid (ChkOk we (.agg #[.slice (some ⟨s+1,0,none⟩) 1 1,.int .i64 0]) 0):=hid (by
  have h1:=zbq (some ⟨s+1,0,none⟩) 1 vl nsLoop we HUE.out (zbv _ (by decide)) (zbj _ (by decide)) (zay _ (by decide)) (by decide) (by decide) ((HGD.out.below hbe).more hbe.size);rw[zn1]at h1;exact h1)
 clear hbe hx9 r0 r1 HX9d HGD HBD HUD HSZ;go_wp2_with fail;refine(HCL.out we (Below.refl _ _)).mono ?_;rintro e wf ⟨rfl,hbf⟩;have HBF:=hid (HBE.out.trans (hbf.mono HBE.out.size));have hcn:=zp0 wf (UT.stays _ _ HUT.out HBF.out) wf (Below.refl _ _);unfold gZero at hcn;have HCN:=hid hcn;clear hbf hcn q0 q1 HBE HUE HCL;go_wp2_with fail;refine HCN.out.mono ?_;rintro e wg ⟨rfl,hbg⟩;have HBG:=hid (HBF.out.trans (hbg.mono HBF.out.size));clear hbg HBF HCN;go_wp2;go_ret;exact⟨rfl,HBG.out⟩
end Go.Proofs.YtoigpackhninoaaGreatDoor

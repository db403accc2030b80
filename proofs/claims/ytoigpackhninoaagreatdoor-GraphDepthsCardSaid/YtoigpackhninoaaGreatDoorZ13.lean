import Derived.Test.YtoigpackhninoaaGreatDoorZ12
import Derived.Test.YtoigpackhninoaaGreatDoorZ26
namespace Go.Proofs.YtoigpackhninoaaGreatDoor
open Gr
open _root_.Go.Proofs.Tryz
open _root_.Go.Lib (hid)
set_option maxRecDepth 100000
set_option maxHeartbeats 16000000
open Go.RowKit
def zt3 (sclr:Int->Gr.Str->Bool) (l:List GArg) (w:World) (e:Ending) (w':World):Prop:=
 Below w.heap.size w w'/\(l.any (fun x=>x.chk sclr != 0)=true->e=.returned (.tuple #[gZero,.int .i64 3]))/\(l.any (fun x=>x.chk sclr != 0)=false->
  (checkG sclr (listN (l.map GArg.p)) 0≠0->e=.returned (.tuple #[gZero,.int .i64 (checkG sclr (listN (l.map GArg.p)) 0:Nat)]))/\
  (checkG sclr (listN (l.map GArg.p)) 0=0->∃A c vs,e=.returned (.tuple #[.agg #[.slice A (listN (l.map GArg.p)).length c,.int .i64 0],.int .i64 0])/\GAt w' w'.heap.size A vs (listN (l.map GArg.p))))
def ArgsOk (sclr:Int->Gr.Str->Bool) (w:World) (l:List GArg):Prop:=∀x∈l,ChkOk w x.v (x.chk sclr)
theorem zkl {α:Type} (f:α->Bool) (l:List α) (k:Nat) (hk:k<l.length) (h:f l[k]=true):l.any f=true:=List.any_eq_true.2 ⟨_,List.getElem_mem hk,h⟩
theorem zlw (T:World->Prop) (hT:Stays T) (sclr:Int->Gr.Str->Bool) (A:Option Addr) (c:Nat) (l:List GArg) (hl:l.length<=100000) (hks:∀x∈l,NH (x.is.map Gr.Ni.nd)) (hsc:∀x∈l,ScalsOk T sclr (x.is.map Gr.Ni.nd)) (w:World) (hTw:T w) (h:GsAt w w.heap.size A l) (hck:ArgsOk sclr w l)
 (hck2:l.any (fun x=>x.chk sclr != 0)=false->∀W A c vs,T W->GAt W W.heap.size A vs (listN (l.map GArg.p))->ChkOk W (.agg #[.slice A (listN (l.map GArg.p)).length c,.int .i64 0]) (checkG sclr (listN (l.map GArg.p)) 0)):
 Calls prog 19 #[.slice A l.length c] w (zt3 sclr l w):=by
 obtain⟨w1,hw1⟩:=ex (w.alloc (.cells #[.slice none 0 0,.int .i64 0] 24))
 obtain⟨gb,hgb⟩:=ex w.heap.size
 have hs1:w1.heap.size=gb+1:=by rw[<-hw1,<-hgb];simp
 have l1:Below gb w w1:=by rw[<-hw1,<-hgb];exact(Below.refl _ _).alloc (Nat.le_refl _) _
 have b1:Blk w1 gb 24 #[.slice none 0 0,.int .i64 0]:=by rw[<-hw1,<-hgb];exact Blk.new _ _ _
 obtain⟨w2,hw2⟩:=ex (w1.alloc (.cells #[.int .i64 9,.string ⟨#[]⟩,.bool false,.slice none 0 0,.slice none 0 0] 35))
 have l2:Below (gb+1) w1 w2:=by rw[<-hw2];exact(Below.refl _ _).alloc (by omega) _
 have b2:Blk w2 (gb+1) 35 #[.int .i64 9,.string ⟨(([]:Gr.Str)).toArray⟩,.bool false,.slice none 0 0,.slice none 0 0]:=by rw[<-hw2,<-hs1];exact Blk.new _ _ _
 have ht2:=Tab.one (B:=gb+1) b2 (Nat.le_refl _);have hl2:Below gb w w2:=l1.trans (l2.mono (by omega));have HT2:=hid ht2;have HL2:=hid hl2;have HG2:Hid (GsAt w2 gb A l):=hid (by have:=h.below (by rw[hgb];exact hl2);rwa[hgb]at this);have HC2:Hid (ArgsOk sclr w2 l):=hid (fun x hx=>(hck x hx).later (by rw[hgb];exact hl2));have HB2:Hid (Blk w2 gb 24 #[.slice none 0 0,.int .i64 0]):=hid (b1.below l2 (by omega));have HTW:Hid (∀W,Below gb w W->T W):=hid (fun W hW=>hT _ _ hTw (by rw[hgb];exact hW));have HS2:Hid (w2.heap.size=gb+2):=hid (by rw[<-hw2];simp[hs1]);have HGB:=hid hgb;have HKS:=hid hks;have HSC:=hid hsc;have HCK:=hid hck2;clear hTw h hck hck2 hks hsc l1 l2 b1 b2 ht2 hl2;go_enter func19,ntmps19;go_upto_region 1 with fail;(try rw[hw1]);(try rw[hgb]);go_upto_region 2 with fail;(try rw[hw2]);(try rw[hs1]);clear hw1 hgb hw2 hs1;go_upto_region 3 with fail;go_loopw [14] (fun s14 wr=>∃(j:Nat),j<=l.length/\s14=.int .i64 j/\Hid ((l.take j).any (fun x=>x.chk sclr != 0)=false/\Below w2.heap.size w2 wr)) (fun s14 _=>l.length-(intOf s14).toNat)
 case atStart=>exact⟨0,by omega,rfl,hid ⟨rfl,Below.refl _ _⟩⟩
 case round=>
  obtain⟨j,hj,rfl,HW⟩:=hrel;obtain⟨wq,hwq⟩:∃wq,wq=wr:=⟨_,rfl⟩
  subst hwq;have hb0:=HB2.out.below HW.out.2 HB2.out.lt;have HB0:=hid hb0;by_cases hlt:j<l.length
  ·have hltI:(j:Int)<(l.length:Int):=by omega
   obtain⟨ad,rfl,hadb,a0,a1⟩:=zux (HG2.out.below (HW.out.2.mono (by have:=HS2.out;omega))).row hlt;obtain⟨x,hx⟩:=ex (l[j])
   have hxm:x∈l:=by rw[<-hx];exact List.getElem_mem hlt
   have HTJ:Hid ((l.take (j+1)).any (fun x=>x.chk sclr != 0)=((l.take j).any (fun x=>x.chk sclr != 0) || x.chk sclr != 0)):=hid (by rw[List.take_succ_eq_append_getElem hlt,List.any_append,hx];simp);have HANY:Hid (x.chk sclr≠0->l.any (fun x=>x.chk sclr != 0)=true):=hid (fun h=>zkl _ l j hlt (by rw[hx];simpa using h));rw[hx]at a0 a1;obtain⟨ck,hck⟩:=ex (x.chk sclr)
   have HCX:Hid (ChkOk wq (.agg #[.slice x.a x.is.length x.c,.int .i64 x.root]) ck):=hid (by rw[<-hck];exact(HC2.out x hxm).later HW.out.2);rw[hck]at HTJ HANY;clear hx hck hb0;obtain⟨w6,hw6⟩:=ex (wq.alloc (.cells #[.slice x.a x.is.length x.c,.int .i64 x.root] 24))
   obtain⟨nb,hnb⟩:=ex wq.heap.size
   have l6:Below nb wq w6:=by rw[<-hw6,<-hnb];exact(Below.refl _ _).alloc (Nat.le_refl _) _
   have b6:Blk w6 nb 24 #[.slice x.a x.is.length x.c,.int .i64 x.root]:=by rw[<-hw6,<-hnb];exact Blk.new _ _ _
   obtain⟨c0,c1⟩:=cells2 b6;have hnbs:w2.heap.size<=nb:=by rw[<-hnb];exact HW.out.2.size
   have HL6:Hid (Below w2.heap.size w2 w6):=hid (HW.out.2.trans (l6.mono hnbs));have HCY:Hid (ChkOk w6 (.agg #[.slice x.a x.is.length x.c,.int .i64 x.root]) ck):=hid (HCX.out.later (by rw[hnb];exact l6));have HB6:Hid (Blk w6 gb 24 #[.slice none 0 0,.int .i64 0]):=hid (HB2.out.below HL6.out HB2.out.lt);clear l6 b6 hnbs;go_upto_region 5 with fail;(try rw[hw6]);(try rw[hnb]);clear hw6 hnb a0 a1;go_wp2_with fail;refine(HCY.out w6 (Below.refl _ _)).mono ?_;rintro e w7 ⟨rfl,hb7⟩;have hs62:=HL6.out.size;have hb27:=HL6.out.trans (hb7.mono hs62);have HL7:=hid hb27;have hbx:=HB2.out.below hb27 HB2.out.lt;have HBX:=hid hbx;obtain⟨d0,d1⟩:=cells2 hbx;have df:∀i,w7.frozen? ⟨gb,i,none⟩=false:=hbx.frozen;clear hb7 hb27 hbx hs62 c0 c1;by_cases h0:ck=0
   ·subst h0;go_wp2;go_roundw
    case rel=>exact⟨j+1,by omega,by go_num,hid ⟨by rw[HTJ.out,HW.out.1];rfl,HL7.out⟩⟩
    case measure=>simp[intOf];omega
   ·have h0I:((ck:Int)==0)=false:=by rw[beq_eq_false_iff_ne];omega
    have HAN:=hid (HANY.out h0);go_wp2_with fail;refine bodyPost_ret (v:=.tuple #[gZero,.int .i64 3]) (by rw[results_cell_tmp rfl];go_simp;rfl) rfl (And.intro ?_ (And.intro (fun _=>rfl) (fun hf=>?_)))
    ·rw[HGB.out];exact((HL2.out.trans (HL7.out.mono (by have:=HS2.out;omega))).setCell (by simp) _).setCell (by simp) _
    ·rw[HAN.out]at hf;cases hf
  ·have hltI:¬(j:Int)<(l.length:Int):=by omega
   have HALL:Hid (l.any (fun x=>x.chk sclr != 0)=false):=hid (by have:=HW.out.1;rwa[List.take_of_length_le (by omega)]at this);have HT0:Hid (Tab (gb+1) wq (.slice (some ⟨gb+1,0,none⟩) 1 1) [⟨9,[],false,SV.nil,SV.nil⟩] [⟨9,[],false,[],[]⟩]/\Below (gb+1) w2 wq):=hid ⟨HT2.out.later HW.out.2,HW.out.2.mono (by have:=HS2.out;omega)⟩;clear hb0 HW HB0;go_upto_region 9 with fail;go_loopw [4,25] (fun s4 s25 wr=>∃(j:Nat) (A1:Option Addr) (n1 c1:Nat) (vs1:List NV),j<=l.length/\s25=.int .i64 j/\s4=.slice A1 n1 c1/\Hid (Tab (gb+1) wr (.slice A1 n1 c1) vs1 (listN ((l.take j).map GArg.p))/\Below (gb+1) w2 wr/\(listN ((l.take j).map GArg.p)).length<=1+j*4096/\0<(listN ((l.take j).map GArg.p)).length/\∀m,(listN ((l.take j).map GArg.p)).head?=some m->m.items.length<=j)) (fun _ s25 _=>l.length-(intOf s25).toNat)
   case atStart=>exact⟨0,_,_,_,_,by omega,rfl,rfl,hid ⟨HT0.out.1,HT0.out.2,by simp[listN],by simp[listN],by simp[listN]⟩⟩
   case round=>
    clear hlt hltI hj;clear HT0;obtain⟨j,A1,n1,c1,vs1,hj,rfl,rfl,HV⟩:=hrel;obtain⟨wp,hwp⟩:∃wp,wp=wr:=⟨_,rfl⟩
    subst hwp;have hbk:Below gb w wp:=HL2.out.trans (HV.out.2.1.mono (by omega));have HBK:=hid hbk;have HB0:=hid (HB2.out.below HV.out.2.1 (by omega));clear hbk;by_cases hlt:j<l.length
    ·have hltI:(j:Int)<(l.length:Int):=by omega
     have HGX:=hid (HG2.out.below (HV.out.2.1.mono (by omega)));obtain⟨ad,rfl,hadb,a0,a1⟩:=zux HGX.out.row hlt;obtain⟨x,hx⟩:=ex (l[j])
     have hxm:x∈l:=by rw[<-hx];exact List.getElem_mem hlt
     rw[hx]at a0 a1;have hck0:x.chk sclr=0:=by
      have:=HALL.out;rw[List.any_eq_false]at this;have:=this x hxm;simpa using this
     obtain⟨hn1,hn2,hin⟩:=zyd hck0;obtain⟨r,hr,hrl,hr0,hrf⟩:=zye hin;rw[hr]at a1;obtain⟨ns,hns⟩:=ex (listN ((l.take j).map GArg.p))
     obtain⟨gs,hgs⟩:=ex (x.is.map Gr.Ni.nd)
     have hgl:x.is.length=gs.length:=by rw[<-hgs];simp
     have HSTEP:Hid (listN ((l.take (j+1)).map GArg.p)=push0 (r+ns.length) (ns++gs.map (shN ns.length))):=hid (by
      rw[List.take_succ_eq_append_getElem hlt,hx,List.map_append];unfold listN at hns ⊢;rw[List.foldl_append,hns];show lstep ns x.p=_;unfold lstep GArg.p;rw[hgs,hr,Int.toNat_natCast])
     have hgat:=(HGX.out.each x hxm).toG hr0;rw[hgs]at hgat hrf;have hnh:=HKS.out x hxm;rw[hgs]at hnh;rw[hns]at HV;rw[hgl]at a0;have hVL:=HV.out.2.2.1;have hV0:=HV.out.2.2.2.1;have HVM:=hid HV.out.2.2.2.2;obtain⟨w6,hw6⟩:=ex (wp.alloc (.cells #[.slice x.a gs.length x.c,.int .i64 r] 24))
     obtain⟨nb,hnb⟩:=ex wp.heap.size
     have l6:Below nb wp w6:=by rw[<-hw6,<-hnb];exact(Below.refl _ _).alloc (Nat.le_refl _) _
     have b6:Blk w6 nb 24 #[.slice x.a gs.length x.c,.int .i64 r]:=by rw[<-hw6,<-hnb];exact Blk.new _ _ _
     obtain⟨z0,z1⟩:=cells2 b6;have hnbg:gb+2<=nb:=by rw[<-hnb];have:=HS2.out;have:=HV.out.2.1.size;omega
     have hap:=zjb (gb+1) x.a x.c r x.vs gs (.slice A1 n1 c1) vs1 ns (by omega) (by omega) hnh hrf (by omega) w6 ((hgat.below (l6.mono (by omega))).more (by omega)) (HV.out.1.later (by rw[hnb];exact l6)) (by have:=b6.lt;omega);have HAP:=hid hap;have HL6:=hid (l6.mono (show gb+1<=nb by omega));have HLE:Hid (ns.length<=1+j*4096/\gs.length<=4096/\0<ns.length/\gb+2<=w6.heap.size):=hid ⟨hVL,by omega,hV0,by have:=b6.lt;omega⟩;clear l6 b6 hap hgat hnh hrf hn1 hn2 hin hrl hr0 hck0 hgl hgs hns hx hxm hr hnbg hVL hV0;go_upto_region 12 with fail;(try rw[hw6]);(try rw[hnb]);clear hw6 hnb a0 a1;go_wp2_with fail;refine HAP.out.mono ?_;rintro e w7 ⟨v7,vs7,rfl,ht7,hb7⟩;have hne7:vs7≠[]:=by
      intro e;have:=ht7.rows.len;rw[e]at this;have:=HLE.out.2.2.1;simp at *;omega
     obtain⟨g,cap,rest,hv7,hcap,hbk7,hbg,_⟩:=ht7.row.row hne7;obtain⟨nn,hnn⟩:=ex vs7.length
     rw[hnn]at hv7 hcap;subst hv7;obtain⟨x0,vl,rfl⟩:∃x0 vl,vs7=x0::vl:=by cases vs7 with
      |nil=>exact absurd rfl hne7
      |cons a b=>exact⟨a,b,rfl⟩
     have hlen7:=ht7.rows.len;obtain⟨m,nl,hml⟩:∃m nl,ns++gs.map (shN ns.length)=m::nl:=by
      cases h:ns++gs.map (shN ns.length)with
      |nil=>rw[h]at hlen7;cases hlen7
      |cons a b=>exact⟨a,b,rfl⟩
     have hnn0:0<nn:=by rw[<-hnn];simp
     have hnn0I:(0:Int)<(nn:Int):=by omega
     have HNN:Hid (nn=ns.length+gs.length):=hid (by rw[<-hnn,hlen7];simp);rw[hml]at ht7;have HML:=hid hml;have HT7:=hid ht7;have HBK7:=hid hbk7;have HBG:=hid hbg;have HB7:=hid hb7;have HCAP:=hid hcap;have k4:w7.cell? ⟨g,4,none⟩=some (.slice x0.i.a x0.i.n x0.i.c):=hbk7.cell 4;have hi0:OwnRow intL w7 (gb+1) 3 (.slice x0.i.a x0.i.n x0.i.c) m.items:=ht7.rows.own 0 true;have HI0:=hid hi0;have HI0L:Hid (m.items.length<=j):=hid (HVM.out m (by
      have h2:=HML.out;cases hns:ns with
      |nil=>have:=HLE.out.2.2.1;rw[hns]at this;simp at this
      |cons a b=>rw[hns]at h2;simp at h2;simp[h2.1]))
     obtain⟨k,hk⟩:=ex (r+ns.length)
     have hkI:(r:Int)+(ns.length:Int)=(k:Int):=by omega
     rw[hk]at HSTEP;rw[hkI];clear ht7 hbk7 hbg hb7 hml hlen7 hne7 hi0 hcap hnn hk hkI z0 z1;go_upto_region 13 with fail;go_wp2_with (at_builtin;go_must (refine zac _ rfl (.tmp 39) (.tmp 41) 33 3 8 rfl intT (gb+1) (.slice x0.i.a x0.i.n x0.i.c) m.items rfl (HI0.out.alloc _) _ _ 1 [k] rfl (RowAt.lit1 _ _ rfl _ ?_) ?_ ?_ ?_))
     any_goals (first|rfl| (have:=HI0L.out;have:=HB7.out.size;have:=HLE.out.2.2.2;simp;omega))
     intro v8 w8 hown hg hat;obtain⟨A8,c8,hv8,_⟩:=hown.form;obtain⟨q,hq⟩:=ex ((m.items++[k]).length)
     rw[hq]at hv8;subst hv8;clear hq;obtain⟨i,hi,hT8,hK8,hB8⟩:=(HT7.out.later ((Below.refl w7.heap.size w7).alloc (Nat.le_refl _) _)).push hown hg (by rw[World.size_alloc];exact hat);have hkN:KeptT 35 w7 w8:=(KeptT.alloc _ _ _).trans (KeptT.grown hg (HI0.out.alloc _) (by decide));have hb8:=hkN _ _ HBK7.out;have k40:w8.cell? ⟨g,4,none⟩=some (.slice x0.i.a x0.i.n x0.i.c):=hb8.cell 4;have k4f:∀i,w8.frozen? ⟨g,i,none⟩=false:=hb8.frozen;obtain⟨w9,hw9⟩:=ex (w8.setCell ⟨g,4,none⟩ (.slice A8 q c8))
     rw[hw9]at hT8 hB8;have hb79:=hB8 (by rw[World.size_alloc];have:=HB7.out.size;have:=HLE.out.2.2.2;omega);have hb29:Below (gb+1) w2 w9:=((((HV.out.2.1.trans HL6.out).trans HB7.out).alloc (by have:=HB7.out.size;have:=HLE.out.2.2.2;omega) _).trans hb79)
     have HNX:Hid (Tab (gb+1) w9 (.slice (some ⟨g,0,none⟩) nn cap) ({x0 with i:=i}::vl) (listN ((l.take (j+1)).map GArg.p))/\Below (gb+1) w2 w9/\(listN ((l.take (j+1)).map GArg.p)).length<=1+(j+1)*4096/\0<(listN ((l.take (j+1)).map GArg.p)).length/\∀m,(listN ((l.take (j+1)).map GArg.p)).head?=some m->m.items.length<=j+1):=hid (by
      rw[HSTEP.out,HML.out];have hml:=congrArg List.length HML.out;simp only[List.length_append,List.length_map,List.length_cons]at hml;have h1:=HLE.out;refine⟨hT8,hb29,?_,?_,?_⟩
      ·simp only[push0,List.length_cons];omega
      ·simp[push0]
      ·intro m' hm';simp[push0]at hm';subst hm';simp;exact HI0L.out)
     clear hown hg hat hi hT8 hK8 hB8 hkN hb8 hb79 hb29 k4;go_wp2_with fail;(try rw[hw9]);(try clear hw9);go_roundw
     case rel=>exact⟨j+1,some ⟨g,0,none⟩,nn,cap,_,by omega,by go_num,rfl,HNX⟩
     case measure=>simp[intOf];omega
    ·have hltI:¬(j:Int)<(l.length:Int):=by omega
     have hje:j=l.length:=by omega
     have htk:l.take j=l:=List.take_of_length_le (by omega);rw[htk]at HV;obtain⟨ns,hns⟩:=ex (listN (l.map GArg.p))
     rw[hns]at HV;obtain⟨A9,c9,hv9,hg9⟩:=HV.out.1.at_;injection hv9 with e1 e2 e3
     subst e1 e2 e3;obtain⟨ck,hck⟩:=ex (checkG sclr ns 0)
     have HCF:=hid (HCK.out HALL.out);rw[hns,hck]at HCF;have HNS:Hid (listN (l.map GArg.p)=ns/\checkG sclr ns 0=ck):=hid ⟨hns,hck⟩;have hc0:ChkOk wp (.agg #[.slice A1 ns.length c1,.int .i64 0]) ck:=HCF.out wp A1 c1 vs1 (HTW.out wp HBK.out) hg9;have hcd:=zkk A1 ns.length c1 0 ck wp hc0;unfold gZero at hcd;have HCD:=hid hcd;have HG9:=hid hg9;clear hje htk hns hck hc0 hcd hg9;go_upto_region 15 with fail;go_wp2_with fail;refine HCD.out.mono ?_;rintro e w7 ⟨rfl,hb7⟩;have hbx:=HB0.out.below hb7 HB0.out.lt;have hb07:=HBK.out.trans (hb7.mono (by have:=HB0.out.lt;omega));have HL7:=hid hb07;have HBX:=hid hbx;have HT7:=hid (HV.out.1.later hb7);obtain⟨d0,d1⟩:=cells2 hbx;have df:∀i,w7.frozen? ⟨gb,i,none⟩=false:=hbx.frozen;clear hb7 hbx hb07;by_cases h0:ck=0
     ·subst h0;go_wp2_with fail;have hkk:∀t,t≠24->KeptT t w7 ((w7.setCell ⟨gb,0,none⟩ (.slice A1 ns.length c1)).setCell ⟨gb,1,none⟩ (.int .i64 0)):=fun t ht=>(KeptT.setCell (p:=⟨gb,0,none⟩) HBX.out ht _).trans (KeptT.setCell (p:=⟨gb,1,none⟩) (HBX.out.set_ 0 _) ht _)
      have hb3:=(HBX.out.set_ 0 (.slice A1 ns.length c1)).set_ 1 (.int .i64 0);have e0:=hb3.cell 0;have e1:=hb3.cell 1;have htt:Tab (gb+1) ((w7.setCell ⟨gb,0,none⟩ (.slice A1 ns.length c1)).setCell ⟨gb,1,none⟩ (.int .i64 0)) (.slice A1 ns.length c1) vs1 ns:=⟨HT7.out.row.kept (hkk _ (by decide)),HT7.out.rows.kept (hkk _ (by decide))⟩
      obtain⟨A9,c9,hv9,hg9⟩:=htt.at_;injection hv9 with f1 f2 f3
      subst f1 f3;refine bodyPost_ret (v:=.tuple #[.agg #[.slice A1 ns.length c1,.int .i64 0],.int .i64 0]) (by rw[results_cell_tmp rfl];go_simp) rfl (And.intro ?_ (And.intro (fun hf=>?_) (fun _=>And.intro (fun hf=>?_) (fun _=>?_))))
      ·rw[HGB.out];exact(HL7.out.setCell (by simp) _).setCell (by simp) _
      ·rw[HALL.out]at hf;cases hf
      ·rw[HNS.out.1,HNS.out.2]at hf;exact absurd rfl hf
      ·rw[HNS.out.1];exact⟨A1,c1,vs1,rfl,hg9⟩
     ·have h0I:((ck:Int)==0)=false:=by rw[beq_eq_false_iff_ne];omega
      go_wp2_with fail;have hb3:=(HBX.out.set_ 0 (.slice none 0 0)).set_ 1 (.int .i64 0);have e0:=hb3.cell 0;have e1:=hb3.cell 1;refine bodyPost_ret (v:=.tuple #[gZero,.int .i64 ck]) (by rw[results_cell_tmp rfl];go_simp;rfl) rfl (And.intro ?_ (And.intro (fun hf=>?_) (fun _=>And.intro (fun _=>?_) (fun hf=>?_))))
      ·rw[HGB.out];exact(HL7.out.setCell (by simp) _).setCell (by simp) _
      ·rw[HALL.out]at hf;cases hf
      ·rw[HNS.out.1,HNS.out.2]
      ·rw[HNS.out.1,HNS.out.2]at hf;exact absurd hf h0
def sclU (kind:Int) (text:Gr.Str):Bool:=if kind=0 then text.isEmpty else if kind=2 then intB text else if kind=5 then utfB text else false
def KU (ns:List Gr.Nd):Prop:=∀x∈ns,x.kind=0\/x.kind=2\/x.kind=5\/x.kind=9\/x.kind=10\/x.kind=11
theorem scalsU (ns:List Gr.Nd) (hk:KU ns) (hn:NH ns):ScalsOk UT sclU ns:=by
 intro x hx h9 h10 h11 _ _ _;have hl:=(hn x hx).2.2;rcases hk x hx with h|h|h|h|h|h
 ·rw[h];exact zi6 x.text
 ·rw[h];exact zes x.text hl
 ·rw[h];exact zfn x.text hl
 ·exact absurd h h9
 ·exact absurd h h10
 ·exact absurd h h11
def nOne:Gr.Nd:=⟨2,[49],false,[],[]⟩
def nA:Gr.Nd:=⟨5,[97],false,[],[]⟩
def nsL:List Gr.Nd:=[⟨9,[],false,[],[1,2]⟩,nOne,nA]
def nsLoop:List Gr.Nd:=[⟨9,[],false,[],[0]⟩]
theorem zrv:checkG sclU nsL 0=0:=by decide+kernel
theorem zrw:checkG sclU nsLoop 0=0:=by decide+kernel
theorem znu:depth nsLoop 0=(0,false):=by decide+kernel
theorem zw1:intB [49]=true:=by decide+kernel
theorem zw2:intB [48,49]=false:=by decide+kernel
theorem zyu:utfB [97]=true:=by decide+kernel
theorem zw3:listN [([nOne.ni],0),([nA.ni],0)]=nsL:=by rfl
theorem zt4:checkI sclU [nOne.ni] 0=0:=by decide+kernel
theorem zyf:checkI sclU [nA.ni] 0=0:=by decide+kernel
theorem zcg (ns:List Gr.Nd) (h:(ns.all fun n=>decide (n.keys.length<=1000/\n.items.length<=1000/\n.text.length<=1000))=true):NH ns:=by
 intro n hn;have:=List.all_eq_true.1 h n hn;simp at this;omega
theorem za7 (ns:List Gr.Nd) (h:(ns.all fun n=>(n.keys++n.items).all fun r=>decide (r<ns.length))=true):Refs ns:=by
 intro n hn r hr;have:=List.all_eq_true.1 (List.all_eq_true.1 h n hn) r hr;simpa using this
theorem zbw (ns:List Gr.Nd) (h:(ns.all fun n=>n.kind==0 || n.kind==2 || n.kind==5 || n.kind==9 || n.kind==10 || n.kind==11)=true):KU ns:=by
 intro n hn;have:=List.all_eq_true.1 h n hn;simp at this;omega
theorem zca (A:Option Addr) (c:Nat) (vs:List NV) (ns:List Gr.Nd) (w:World) (hUT:UT w) (h1:NH ns) (h2:KU ns) (h3:Refs ns) (h4:0<ns.length) (h5:ns.length<=1073741823) (h:GAt w w.heap.size A vs ns):ChkOk w (.agg #[.slice A ns.length c,.int .i64 0]) (checkG sclU ns 0):=
 fun W hW=>zru UT UT.stays sclU A c 0 vs ns h1 (scalsU ns h2 h1) h5 h3 h4 W (UT.stays _ _ hUT hW) ((h.below hW).more hW.size)
theorem zt5 (w:World) (hUT:UT w):ChkOk w gZero 3:=by
 intro W hW;have:=zfa UT UT.stays sclU none 0 0 [] [] (by simp[NH]) (by simp[ScalsOk]) (by simp) W (UT.stays _ _ hUT hW) ⟨?_,rfl,fun j h=>by simp at h,fun j h=>by simp at h⟩
 ·exact this
 ·exact(OwnRow.nil (L:=nodeL) (w:=W) (base:=0) (E:=35)).form.elim (fun A h=>by obtain⟨c,h1,h2⟩:=h;injection h1 with e1;subst e1;exact h2)
theorem zhp {w:World} {g:Nat} {kind:Int} {text:Gr.Str} (h:Blk w g 35 #[.int .i64 kind,.string ⟨text.toArray⟩,.bool false,.slice none 0 0,.slice none 0 0]):GAt w w.heap.size (some ⟨g,0,none⟩) [⟨kind,text,false,SV.nil,SV.nil⟩] [⟨kind,text,false,[],[]⟩]:=by
 obtain⟨A,c,hv,hg⟩:=(Tab.one (B:=0) h (Nat.zero_le _)).at_;injection hv with e1 e2 e3
 subst e1;exact hg
def argOf (g:Nat) (kind:Int) (text:Gr.Str):GArg:=⟨some ⟨g,0,none⟩,1,0,[⟨kind,text,false,SV.nil,SV.nil⟩],[(⟨kind,text,false,[],[]⟩:Gr.Nd).ni]⟩
open Go.RowKit
theorem zt6 (A:Option Addr) (c g1 g2:Nat) (w:World) (hUT:UT w) (h1:Blk w g1 35 #[.int .i64 2,.string ⟨([49]:Gr.Str).toArray⟩,.bool false,.slice none 0 0,.slice none 0 0]) (h2:Blk w g2 35 #[.int .i64 5,.string ⟨([97]:Gr.Str).toArray⟩,.bool false,.slice none 0 0,.slice none 0 0])
 (hrow:RowAt argL w w.heap.size A [argOf g1 2 [49],argOf g2 5 [97]]):
 Calls Tryz.prog 19 #[.slice A 2 c] w fun e w'=>Below w.heap.size w w'/\∃A3 c3 vs,e=.returned (.tuple #[.agg #[.slice A3 3 c3,.int .i64 0],.int .i64 0])/\GAt w' w'.heap.size A3 vs nsL:=by
 have k1:GArg.chk sclU (argOf g1 2 [49])=0:=zt4;have k2:GArg.chk sclU (argOf g2 5 [97])=0:=zyf;have hn1:NH [nOne]:=zcg _ (by decide);have hn2:NH [nA]:=zcg _ (by decide);have i1:=(zhp h1).toI;have i2:=(zhp h2).toI;have hlist:listN ([argOf g1 2 [49],argOf g2 5 [97]].map GArg.p)=nsL:=zw3;have hnl:NH nsL:=zcg _ (by decide);have hany:[argOf g1 2 [49],argOf g2 5 [97]].any (fun x=>x.chk sclU != 0)=false:=by simp[k1,k2]
 have h:=zlw UT UT.stays sclU A c [argOf g1 2 [49],argOf g2 5 [97]] (by simp)
  (by
    intro x hx;simp at hx;rcases hx with rfl|rfl
    ·exact hn1
    ·exact hn2)
  (by
    intro x hx;simp at hx;rcases hx with rfl|rfl
    ·exact scalsU [nOne] (zbw _ (by decide)) hn1
    ·exact scalsU [nA] (zbw _ (by decide)) hn2)
  w hUT ⟨hrow,by intro x hx;simp at hx;exact hx.elim (fun e=>e▸i1) (fun e=>e▸i2)⟩
  (by
    intro x hx;simp at hx;rcases hx with rfl|rfl
    ·rw[k1];exact zca _ _ _ [nOne] w hUT hn1 (zbw _ (by decide)) (za7 _ (by decide)) (by decide) (by decide) (zhp h1)
    ·rw[k2];exact zca _ _ _ [nA] w hUT hn2 (zbw _ (by decide)) (za7 _ (by decide)) (by decide) (by decide) (zhp h2))
  (by
    intro _ W A c vs hW hg;rw[hlist]at hg ⊢;exact zca _ _ _ nsL W hW hnl (zbw _ (by decide)) (za7 _ (by decide)) (by decide) (by decide) hg)
 refine h.mono ?_;rintro e w' ⟨hb,_,hp⟩;refine⟨hb,?_⟩;have hp2:=(hp hany).2;rw[hlist]at hp2;exact hp2 zrv
theorem zt7 {w:World} {g gi:Nat} (h:Blk w g 35 #[.int .i64 9,.string ⟨#[]⟩,.bool false,.slice none 0 0,.slice (some ⟨gi,0,none⟩) 1 1]) (hi:Blk w gi 3 #[.int .i64 0]):∃vs,GAt w w.heap.size (some ⟨g,0,none⟩) vs nsLoop:=by
 have ho:OwnRow intL w 0 3 (.slice (some ⟨gi,0,none⟩) 1 1) [0]:=zd8 (l:=[0]) hi (Nat.zero_le _) rfl (by decide);have hr:=(Rows.nil 0 w).snoc ⟨9,[],false,SV.nil,⟨some ⟨gi,0,none⟩,1,1⟩⟩ ⟨9,[],false,[],[0]⟩ ⟨rfl,rfl,rfl⟩ OwnRow.nil ho (fun g h=>by simp[SV.nil,SV.v,Value.ownBlock]at h) (fun j b g h=>by simp[ints,SV.nil,SV.v,Value.ownBlock]at h);have ht:Tab 0 w (.slice (some ⟨g,0,none⟩) 1 1) [⟨9,[],false,SV.nil,⟨some ⟨gi,0,none⟩,1,1⟩⟩] nsLoop:=⟨⟨nodeL.all_len _,.inr ⟨g,1,_,rfl,Nat.zero_le _,h,Nat.le_refl _,by decide,rfl,rfl⟩⟩,hr⟩
 obtain⟨A,c,hv,hg⟩:=ht.at_;injection hv with e1 e2 e3
 subst e1;exact⟨_,hg⟩
theorem zt8 {w:World} {A:Option Addr} {c:Nat} {vs:List NV} (h:GAt w w.heap.size A vs nsLoop):DepOk w (.agg #[.slice A 1 c,.int .i64 0]) (0,false):=by
 intro W hW;have:=zdl A c 0 vs nsLoop (za7 _ (by decide)) (by decide) (by intro n hn;have:=zcg nsLoop (by decide) n hn;exact⟨this.1,this.2.1⟩) (by decide)
  (by intro v hv;have h0:v=0:=by simp[nsLoop]at hv;omega
      subst h0;exact .refl _) W ((h.below hW).more hW.size)
 rw[znu]at this;exact this
theorem zjc (w:World) (hUT:UT w):Calls prog 13 #[] w fun e w'=>e=.returned (.bool true)/\Below w.heap.size w w':=by
 have HS1:Hid (∀W,UT W->Calls prog 16 #[.int .i64 2,.string ⟨([49]:Gr.Str).toArray⟩] W fun e w'=>Below W.heap.size W w'/\∃g,W.heap.size<=g/\e=.returned (.tuple #[.agg #[.slice (some ⟨g,0,none⟩) 1 1,.int .i64 0],.int .i64 0])/\Blk w' g 35 #[.int .i64 2,.string ⟨([49]:Gr.Str).toArray⟩,.bool false,.slice none 0 0,.slice none 0 0]):=hid (fun W hW=>(zd9 UT UT.stays 2 [49] true (by decide) (by decide) (by rw[<-zw1];exact zes [49] (by decide)) W hW).mono (by
  rintro e w' ⟨hb,_,h⟩;exact⟨hb,h rfl⟩))
 have HS2:Hid (∀W,UT W->Calls prog 16 #[.int .i64 5,.string ⟨([97]:Gr.Str).toArray⟩] W fun e w'=>Below W.heap.size W w'/\∃g,W.heap.size<=g/\e=.returned (.tuple #[.agg #[.slice (some ⟨g,0,none⟩) 1 1,.int .i64 0],.int .i64 0])/\Blk w' g 35 #[.int .i64 5,.string ⟨([97]:Gr.Str).toArray⟩,.bool false,.slice none 0 0,.slice none 0 0]):=hid (fun W hW=>(zd9 UT UT.stays 5 [97] true (by decide) (by decide) (by rw[<-zyu];exact zfn [97] (by decide)) W hW).mono (by
  rintro e w' ⟨hb,_,h⟩;exact⟨hb,h rfl⟩))
 have HS3:Hid (∀W,UT W->Calls prog 16 #[.int .i64 2,.string ⟨([48,49]:Gr.Str).toArray⟩] W fun e w'=>Below W.heap.size W w'/\e=.returned (.tuple #[.agg #[.slice none 0 0,.int .i64 0],.int .i64 3])):=hid (fun W hW=>(zd9 UT UT.stays 2 [48,49] false (by decide) (by decide) (by rw[<-zw2];exact zes [48,49] (by decide)) W hW).mono (by
  rintro e w' ⟨hb,h,_⟩;exact⟨hb,h rfl⟩))
 have HUT:=hid hUT;clear hUT;go_enter func13,ntmps13;go_upto_region 1 with fail;go_wp2_with fail;refine(HS1.out w HUT.out).mono ?_;rintro e w1 ⟨hb1,g1,hg1,rfl,hk1⟩;go_upto_region 2 with fail;obtain⟨w2,hw2⟩:=ex (w1.alloc (.cells #[.slice (some ⟨g1,0,none⟩) 1 1,.int .i64 0] 24))
 obtain⟨n1,hn1⟩:=ex w1.heap.size
 have HB2:Hid (Below w.heap.size w w2):=hid (by rw[<-hw2];exact hb1.alloc hb1.size _);have HK1:Hid (Blk w2 g1 35 #[.int .i64 2,.string ⟨([49]:Gr.Str).toArray⟩,.bool false,.slice none 0 0,.slice none 0 0]):=hid (by rw[<-hw2];exact hk1.alloc _);have HX1:Hid (Blk w2 n1 24 #[.slice (some ⟨g1,0,none⟩) 1 1,.int .i64 0]):=hid (by rw[<-hw2,<-hn1];exact Blk.new _ _ _);have HU2:=hid (UT.stays _ _ HUT.out HB2.out);clear hb1 hg1 hk1;(try rw[hw2]);(try rw[hn1]);clear hw2 hn1;go_wp2_with fail;refine(HS2.out w2 HU2.out).mono ?_;rintro e w3 ⟨hb3,g2,hg2,rfl,hk2⟩;go_upto_region 3 with fail;obtain⟨w4,hw4⟩:=ex (w3.alloc (.cells #[.slice (some ⟨g2,0,none⟩) 1 1,.int .i64 0] 24))
 obtain⟨n2,hn2⟩:=ex w3.heap.size
 have hb4:Below w2.heap.size w2 w4:=by rw[<-hw4];exact hb3.alloc hb3.size _
 have HB4:=hid (HB2.out.trans (hb4.mono HB2.out.size));have HK14:=hid (HK1.out.below hb4 HK1.out.lt);have hx1:=HX1.out.below hb4 HX1.out.lt;have HK24:Hid (Blk w4 g2 35 #[.int .i64 5,.string ⟨([97]:Gr.Str).toArray⟩,.bool false,.slice none 0 0,.slice none 0 0]):=hid (by rw[<-hw4];exact hk2.alloc _);have hx2:Blk w4 n2 24 #[.slice (some ⟨g2,0,none⟩) 1 1,.int .i64 0]:=by rw[<-hw4,<-hn2];exact Blk.new _ _ _
 have HU4:=hid (UT.stays _ _ HUT.out HB4.out);obtain⟨a0,a1⟩:=cells2 hx1;obtain⟨a2,a3⟩:=cells2 hx2;clear hb3 hg2 hk2 hb4 hx1 hx2;(try rw[hw4]);(try rw[hn2]);clear hw4 hn2;obtain⟨w5,hw5⟩:=ex (w4.alloc (.cells #[.slice (some ⟨g1,0,none⟩) 1 1,.int .i64 0,.slice (some ⟨g2,0,none⟩) 1 1,.int .i64 0] 24))
 obtain⟨n3,hn3⟩:=ex w4.heap.size
 have hb5:Below w4.heap.size w4 w5:=by rw[<-hw5];exact(Below.refl _ _).alloc (Nat.le_refl _) _
 have hrow:RowAt argL w5 w5.heap.size (some ⟨n3,0,none⟩) [argOf g1 2 [49],argOf g2 5 [97]]:=by
  have ho:OwnRow argL w5 0 24 (.slice (some ⟨n3,0,none⟩) 2 2) [argOf g1 2 [49],argOf g2 5 [97]]:=⟨argL.all_len _,.inr ⟨n3,2,_,rfl,Nat.zero_le _,by rw[<-hw5,<-hn3];exact Blk.new _ _ _,Nat.le_refl _,by decide,rfl,rfl⟩⟩
  obtain⟨A,c,hv,hg⟩:=ho.form;injection hv with e1 e2 e3
  subst e1;exact hg
 have HB5:=hid (HB4.out.trans (hb5.mono HB4.out.size));have hl:=zt6 (some ⟨n3,0,none⟩) 2 g1 g2 w5 (UT.stays _ _ HU4.out hb5) (HK14.out.below hb5 HK14.out.lt) (HK24.out.below hb5 HK24.out.lt) hrow;have HL:=hid hl;clear hb5 hrow hl HX1 HK1 HK14 HK24 HS1 HS2;go_wp2_with fail;(try rw[hw5]);(try rw[hn3]);clear hw5 hn3 a0 a1 a2 a3;refine HL.out.mono ?_;rintro e w6 ⟨hb6,A3,c3,vs3,rfl,hg6⟩;go_upto_region 4 with fail;obtain⟨w7,hw7⟩:=ex (w6.alloc (.cells #[.slice A3 3 c3,.int .i64 0] 24))
 obtain⟨n5,hn5⟩:=ex w6.heap.size
 have hb7:Below w6.heap.size w6 w7:=by rw[<-hw7];exact(Below.refl _ _).alloc (Nat.le_refl _) _
 have hb67:=HB5.out.trans (hb6.mono HB5.out.size);have HB7:=hid (hb67.trans (hb7.mono hb67.size));have HG7:Hid (GAt w7 w7.heap.size A3 vs3 nsL):=hid ((hg6.below hb7).more hb7.size);have HX5:Hid (Blk w7 n5 24 #[.slice A3 3 c3,.int .i64 0]):=hid (by rw[<-hw7,<-hn5];exact Blk.new _ _ _);have HU7:=hid (UT.stays _ _ HUT.out HB7.out);clear hb6 hg6 hb7 hb67 HL HB2 HB4 HB5 HU2 HU4;(try rw[hw7]);(try rw[hn5]);clear hw7 hn5;go_wp2_with fail;refine(HS3.out w7 HU7.out).mono ?_;rintro e w8 ⟨hb8,rfl⟩;go_upto_region 5 with fail;obtain⟨w9,hw9⟩:=ex (w8.alloc (.cells #[.slice none 0 0,.int .i64 0] 24))
 obtain⟨n7,hn7⟩:=ex w8.heap.size
 have hb9:Below w7.heap.size w7 w9:=by rw[<-hw9];exact hb8.alloc hb8.size _
 have HB9:=hid (HB7.out.trans (hb9.mono HB7.out.size));have HG9:Hid (GAt w9 w9.heap.size A3 vs3 nsL):=hid ((HG7.out.below hb9).more hb9.size);have HX59:=hid (HX5.out.below hb9 HX5.out.lt);clear hb8 hb9 HG7 HX5 HS3;(try rw[hw9]);(try rw[hn7]);clear hw9 hn7;go_upto_region 6 with fail;obtain⟨s,hs⟩:=ex w9.heap.size
 (try rw[hs]);obtain⟨wa,hwa⟩:=ex (w9.alloc (.cells #[.int .i64 0] 3))
 have ba:Blk wa s 3 #[.int .i64 0]:=by rw[<-hwa,<-hs];exact Blk.new _ _ _
 have la:Below s w9 wa:=by rw[<-hwa,<-hs];exact(Below.refl _ _).alloc (Nat.le_refl _) _
 have sa:wa.heap.size=s+1:=by rw[<-hwa,<-hs];simp
 obtain⟨wb,hwb⟩:=ex (wa.alloc (.cells #[.int .i64 9,.string ⟨#[]⟩,.bool false,.slice none 0 0,.slice (some ⟨s,0,none⟩) 1 1] 35))
 have bb:Blk wb (s+1) 35 #[.int .i64 9,.string ⟨#[]⟩,.bool false,.slice none 0 0,.slice (some ⟨s,0,none⟩) 1 1]:=by rw[<-hwb,<-sa];exact Blk.new _ _ _
 have lb:Below (s+1) wa wb:=by rw[<-hwb];exact(Below.refl _ _).alloc (by omega) _
 have sb:wb.heap.size=s+2:=by rw[<-hwb];simp[sa]
 obtain⟨wc,hwc⟩:=ex (wb.alloc (.cells #[.slice (some ⟨s+1,0,none⟩) 1 1,.int .i64 0] 24))
 have bc:Blk wc (s+2) 24 #[.slice (some ⟨s+1,0,none⟩) 1 1,.int .i64 0]:=by rw[<-hwc,<-sb];exact Blk.new _ _ _
 have lc:Below (s+2) wb wc:=by rw[<-hwc];exact(Below.refl _ _).alloc (by omega) _
 have hbb:Blk wc (s+1) 35 #[.int .i64 9,.string ⟨#[]⟩,.bool false,.slice none 0 0,.slice (some ⟨s,0,none⟩) 1 1]:=bb.below lc (by omega);have hba:Blk wc s 3 #[.int .i64 0]:=(ba.below lb (by omega)).below lc (by omega);have hb9c:Below w9.heap.size w9 wc:=by rw[hs];exact la.trans ((lb.mono (by omega)).trans (lc.mono (by omega)))
 obtain⟨vl,hgl⟩:=zt7 hbb hba;have HGL:=hid hgl;have HBC:=hid (HB9.out.trans (hb9c.mono HB9.out.size));have HG3:Hid (GAt wc wc.heap.size A3 vs3 nsL):=hid ((HG9.out.below hb9c).more hb9c.size);have hx5:=HX59.out.below hb9c HX59.out.lt;have HX5:=hid hx5;have HX9:=hid bc;have HUC:=hid (UT.stays _ _ HUT.out HBC.out);obtain⟨q0,q1⟩:=cells2 bc;have HD:Hid (Calls prog 22 #[.agg #[.slice (some ⟨s+1,0,none⟩) 1 1,.int .i64 0]] wc fun e w'=>e=.returned (.tuple #[.int .i64 0,.bool false])/\Below wc.heap.size wc w'):=hid (by
  have h1:=zca (some ⟨s+1,0,none⟩) 1 vl nsLoop wc HUC.out (zcg _ (by decide)) (zbw _ (by decide)) (za7 _ (by decide)) (by decide) (by decide) hgl;rw[zrw]at h1;exact zfs (some ⟨s+1,0,none⟩) 1 1 0 0 (0,false) wc h1 (fun _=>zt8 hgl))
 (try rw[hwa]);(try rw[hwb]);(try rw[hwc]);clear hs hwa ba la sa hwb bb lb sb hwc bc lc hbb hba hb9c hgl hx5 HG9 HX59 HB9 HB7;go_wp2_with fail;refine HD.out.mono ?_;rintro e wd ⟨rfl,hbd⟩;have HBD:=hid (HBC.out.trans (hbd.mono HBC.out.size));have HUD:=hid (UT.stays _ _ HUT.out HBD.out);have hx5:=HX5.out.below hbd HX5.out.lt;have hx9:=HX9.out.below hbd HX9.out.lt;obtain⟨r0,r1⟩:=cells2 hx5;have HX9d:=hid hx9;have HSZ:Hid (Calls prog 21 #[.agg #[.slice A3 3 c3,.int .i64 0]] wd fun e w'=>e=.returned (.int .i64 3)/\Below wd.heap.size wd w'):=hid (by
  have h1:=zca A3 c3 vs3 nsL wd HUD.out (zcg _ (by decide)) (zbw _ (by decide)) (za7 _ (by decide)) (by decide) (by decide) ((HG3.out.below hbd).more hbd.size);rw[zrv]at h1;exact zlv A3 3 c3 0 0 wd h1)
 have HGD:Hid (GAt wd wd.heap.size (some ⟨s+1,0,none⟩) vl nsLoop):=hid ((HGL.out.below hbd).more hbd.size);clear hbd hx5 hx9 HX5 HX9 HGL HG3 q0 q1 HD HBC HUC;go_upto_region 7 with fail;go_wp2_with fail;refine HSZ.out.mono ?_;rintro e we ⟨rfl,hbe⟩;have HBE:=hid (HBD.out.trans (hbe.mono HBD.out.size));have HUE:=hid (UT.stays _ _ HUT.out HBE.out);have hx9:=HX9d.out.below hbe HX9d.out.lt;obtain⟨q0,q1⟩:=cells2 hx9;have HCL:Hid (ChkOk we (.agg #[.slice (some ⟨s+1,0,none⟩) 1 1,.int .i64 0]) 0):=hid (by
  have h1:=zca (some ⟨s+1,0,none⟩) 1 vl nsLoop we HUE.out (zcg _ (by decide)) (zbw _ (by decide)) (za7 _ (by decide)) (by decide) (by decide) ((HGD.out.below hbe).more hbe.size);rw[zrw]at h1;exact h1)
 clear hbe hx9 r0 r1 HX9d HGD HBD HUD HSZ;go_wp2_with fail;refine(HCL.out we (Below.refl _ _)).mono ?_;rintro e wf ⟨rfl,hbf⟩;have HBF:=hid (HBE.out.trans (hbf.mono HBE.out.size));have hcn:=zt5 wf (UT.stays _ _ HUT.out HBF.out) wf (Below.refl _ _);unfold gZero at hcn;have HCN:=hid hcn;clear hbf hcn q0 q1 HBE HUE HCL;go_wp2_with fail;refine HCN.out.mono ?_;rintro e wg ⟨rfl,hbg⟩;have HBG:=hid (HBF.out.trans (hbg.mono HBF.out.size));clear hbg HBF HCN;go_wp2;go_ret;exact⟨rfl,HBG.out⟩
def Sz (is:List Gr.Ni):Prop:=is.length<=9223372036854775807/\∀x∈is,x.text.length<=9223372036854775807/\x.keys.length<=9223372036854775807/\x.items.length<=9223372036854775807
theorem zw4 (A:Option Addr) (c:Nat) (root:Int) (vs:List NV) (is:List Gr.Ni) (hs:∀x∈is,x.text.length<=268435455/\x.keys.length<=1073741823/\x.items.length<=1073741823) (hl:is.length<=1073741823) (w:World) (hUT:UT w) (h:IAt w w.heap.size A vs is):
 ChkOk w (.agg #[.slice A is.length c,.int .i64 root]) (checkI sclX is root):=fun W hW=>
 zfa UT UT.stays sclX A c root vs is (fun x hx=>by
  obtain⟨y,hy,rfl⟩:=List.mem_map.1 hx;have:=hs y hy;simp only[Gr.Ni.nd,List.length_map];omega) (fun x hx _ _ _ _ _ _=>by
  obtain⟨y,hy,rfl⟩:=List.mem_map.1 hx;exact zre _ _ (hs y hy).1) hl W (UT.stays _ _ hUT hW) ((h.below hW).more hW.size)
theorem zyg {is:List Gr.Ni} (h1:is.length<=maxLen) (h2:∀y∈is,y.text.length<=maxLen/\y.keys.length<=maxLen/\y.items.length<=maxLen):Sz is:=by
 unfold maxLen at h1 h2;exact⟨h1,h2⟩
namespace Gr
def wtN (ns:List Nd) (i:Nat):Nat:=(ns[i]?.map (fun x=>x.text.length+30)).getD 0
def plen (ns:List Nd) (f:Nat) (L:List Nat):Nat:=(L.map (fun i=>(printF ns f i).length)).sum
def wtS (ns:List Nd) (L:List Nat):Nat:=(L.map (wtN ns)).sum
def kids (ns:List Nd) (L:List Nat):List Nat:=L.flatMap (succ ns)
theorem zk6 {l m:List Nat} (h:l.Perm m):l.sum=m.sum:=by
 grind
theorem zf9 (n:Nat) (L:List Nat) (hd:L.Nodup) (hL:∀x∈L,x<n):∃R,(L++R).Perm (List.range n):=by
 refine⟨(List.range n).filter (fun x=>decide (x∉L)),?_⟩;refine(zey (List.range n) _ List.nodup_range (fun x hx=>?_) ?_).symm
 ·grind
 ·rw[List.length_append,<-List.countP_eq_length_filter,<-zdt n L hd hL];rw[List.length_eq_countP_add_countP (l:=List.range n) (p:=fun i=>decide (i∈L))];apply Nat.le_of_eq
  congr 1
  exact List.countP_congr (fun x _=>by simp)
theorem zxo (ns:List Nd) (L:List Nat) (hd:L.Nodup) (hL:∀x∈L,x<ns.length):wtS ns L<=wtS ns (List.range ns.length):=by
 obtain⟨R,hR⟩:=zf9 ns.length L hd hL;unfold wtS;rw[<-zk6 (hR.map (wtN ns)),List.map_append,List.sum_append];omega
theorem zpe (ns:List Nd):kids ns (List.range ns.length)=refs ns:=by
 unfold kids refs;rw[List.flatMap_def,List.flatMap_def]
 congr 1
 apply List.ext_getElem
 ·simp
 ·intro i h1 h2;simp only[List.length_map,List.length_range]at h1;simp[zc8 h1]
theorem zmo (ns:List Nd) (L:List Nat) (hd:L.Nodup) (hL:∀x∈L,x<ns.length) (y:Nat):(kids ns L).count y<=(refs ns).count y:=by
 obtain⟨R,hR⟩:=zf9 ns.length L hd hL;rw[<-zpe];have:=(hR.flatMap_right (succ ns)).count_eq y;unfold kids;rw[<-this,List.flatMap_append,List.count_append];omega
theorem dec_len (n:Nat) (h:n<=999999999):(Lib.decDigits n).length<=9:=by
 have:=zpc 9 n (by omega) (by omega);have h2:=congrArg List.length this;rw[List.length_append,List.length_replicate,za4]at h2;omega
section
variable {ns:List Nd}
theorem zg8 (l:List Str):l.flatten.length=(l.map List.length).sum:=by
 grind
theorem zpf (f:Nat) (x:Nd) (hk:x.kind=10->x.keys.length=x.items.length):(entS ns f x).flatten.length<=plen ns f (x.keys++x.items):=by
 have h1:(entS ns f x).flatten.length=(ents ns f x).flatten.length:=by
  rw[zg8,zg8];unfold entS;split
  ·exact zk6 ((za6 _).map _)
  ·rfl
 rw[h1,zg8];unfold ents plen;rw[List.map_map,List.map_append,List.sum_append];have e2:∀l:List Nat,(List.range l.length).map (fun k=>(printF ns f (l.getD k 0)).length)=l.map (fun i=>(printF ns f i).length):=by
  intro l;apply List.ext_getElem
  ·simp
  ·grind
 have add:∀(l:List Nat) (p q:Nat->Nat),(l.map (fun k=>p k+q k)).sum=(l.map p).sum+(l.map q).sum:=by
  intro l p q
  induction l with
  |nil=>rfl
  |cons a l ih=>simp only[List.map_cons,List.sum_cons,ih];omega
 by_cases h10:x.kind=10
 ·have hl:=hk h10;have:(List.length ∘ fun k=>(if x.kind=10 then printF ns f (x.keys.getD k 0)else[])++printF ns f (x.items.getD k 0))=fun k=>(printF ns f (x.keys.getD k 0)).length+(printF ns f (x.items.getD k 0)).length:=by
   funext k;simp[h10]
  rw[this,add,e2,<-hl,e2];exact Nat.le_refl _
 ·have:(List.length ∘ fun k=>(if x.kind=10 then printF ns f (x.keys.getD k 0)else[])++printF ns f (x.items.getD k 0))=fun k=>(printF ns f (x.items.getD k 0)).length:=by
   funext k;simp[h10]
  rw[this,e2];omega
theorem zmp (hok:NodesOk ns) (hb:∀x∈ns,x.text.length<=999999999/\x.items.length<=999999999) (f i:Nat) (hi:i<ns.length):(printF ns (f+1) i).length<=wtN ns i+plen ns f (succ ns i):=by
 have hm:ns[i]∈ns:=List.getElem_mem hi;have h1:=zpf (ns:=ns) f ns[i] (hok _ hm).2.2;have d1:=dec_len _ (hb _ hm).1;have d2:=dec_len _ (hb _ hm).2;rw[zai (List.getElem?_eq_getElem hi),zc8 hi];unfold wtN;rw[List.getElem?_eq_getElem hi];simp only[Option.map_some,Option.getD_some,List.length_cons,List.length_append];have:(if ns[i].ord=true then[33]else([]:Str)).length<=1:=by split<;>simp
 omega
theorem zpg (f:Nat) (L:List Nat):plen ns f (kids ns L)=(L.map (fun i=>plen ns f (succ ns i))).sum:=by
 induction L with
 |nil=>rfl
 |cons a L ih=>
  unfold kids plen at ih ⊢;simp only[List.flatMap_cons,List.map_append,List.sum_append,List.map_cons,List.sum_cons,ih]
theorem zmq (hok:NodesOk ns) (hb:∀x∈ns,x.text.length<=999999999/\x.items.length<=999999999) (f:Nat):∀L:List Nat,(∀x∈L,x<ns.length)->plen ns (f+1) L<=wtS ns L+plen ns f (kids ns L):=by
 intro L hL;rw[zpg];unfold plen wtS
 induction L with
 |nil=>simp
 |cons a L ih=>
  have h1:=ih (fun x hx=>hL x (.tail _ hx));have h2:=zmp hok hb f a (hL a (.head _));unfold plen at h2 h1;simp only[List.map_cons,List.sum_cons];omega
theorem zvh (hr:Refs ns) (hok:NodesOk ns) (hb:∀x∈ns,x.text.length<=999999999/\x.items.length<=999999999) {K:Nat->Prop} (hK:∀u,K u->∀v∈succ ns u,K v) (hone:∀x,K x->(refs ns).count x<=1):∀(f:Nat) (L:List Nat),L.Nodup->(∀x∈L,x<ns.length/\K x)->plen ns f L<=f*wtS ns (List.range ns.length):=by
 intro f
 induction f with
 |zero=>
  intro L _ _;unfold plen;have:(L.map (fun i=>(printF ns 0 i).length)).sum=0:=by
   induction L with
   |nil=>rfl
   |cons a L ih=>
    rw[List.map_cons,List.sum_cons];have h0:(printF ns 0 a).length=0:=rfl;rw[h0,Nat.zero_add];apply ih
    ·grind
    ·grind
  rw[this];omega
 |succ f ih=>
  intro L hd hL;have hlt:∀x∈L,x<ns.length:=fun x hx=>(hL x hx).1
  have h1:=zmq hok hb f L hlt;have h2:=zxo ns L hd hlt;have hkm:∀x∈kids ns L,x<ns.length/\K x:=by
   intro x hx;obtain⟨u,hu,hxu⟩:=List.mem_flatMap.1 hx;exact⟨hr.succ u x hxu,hK u (hL u hu).2 x hxu⟩
  have hkd:(kids ns L).Nodup:=by
   rw[List.nodup_iff_count];intro y;by_cases hy:y∈kids ns L
   ·exact Nat.le_trans (zmo ns L hd hlt y) (hone y (hkm y hy).2)
   ·grind
  have h3:=ih (kids ns L) hkd hkm;rw[Nat.succ_mul];omega
theorem zph (hr:Refs ns) (hok:NodesOk ns) (hb:∀x∈ns,x.text.length<=999999999/\x.items.length<=999999999) {K:Nat->Prop} (hK:∀u,K u->∀v∈succ ns u,K v) (hone:∀x,K x->(refs ns).count x<=1) (f i:Nat) (hi:i<ns.length) (hKi:K i):(printF ns f i).length<=f*wtS ns (List.range ns.length):=by
 have:=zvh hr hok hb hK hone f [i] (by simp) (fun x hx=>by rw[List.mem_singleton.1 hx];exact⟨hi,hKi⟩);unfold plen at this;simpa using this
end
end Gr
namespace Gr
theorem zvi {l:List Str} {k:Nat} (h:k<l.length) (hm:l[k]∈l.take k):dupS l=true:=by
 rw[<-Bool.not_eq_false];intro hf;have hn:=(zdv l).1 hf;obtain⟨j,hj,he⟩:=List.mem_iff_getElem.1 hm;rw[List.length_take]at hj;rw[List.getElem_take]at he;have h2:j<k:=by omega
 exact absurd he (fun e=>absurd ((List.getElem_inj hn).1 e) (by omega))
theorem zjs {l:List Str} {k:Nat} (h:k<l.length) (hn:(l.take k).Nodup) (hm:l[k]∉l.take k):(l.take (k+1)).Nodup:=by
 rw[List.take_succ_eq_append_getElem h,List.nodup_append];refine⟨hn,by simp,fun a ha b hb=>?_⟩;rw[List.mem_singleton]at hb;subst hb;exact fun e=>hm (e▸ha)
theorem zxp {l:List Str} {k:Nat} (h:l.length<=k) (hn:(l.take k).Nodup):dupS l=false:=by
 rw[List.take_of_length_le h]at hn;exact(zdv l).2 hn
theorem zmr {ns:List Nd} {f i:Nat} (h:i<ns.length) (hd:dupS (ns[i].keys.map (printF ns f))=true):rtwice ns f=true:=by
 unfold rtwice;rw[List.any_eq_true];exact⟨_,List.getElem_mem h,hd⟩
theorem zpi {ns:List Nd} {f i:Nat} (h:ns.length<=i) (ha:∀j,j<i->∀(hj:j<ns.length),dupS (ns[j].keys.map (printF ns f))=false):rtwice ns f=false:=by
 unfold rtwice;rw[List.any_eq_false];intro x hx;obtain⟨j,hj,rfl⟩:=List.mem_iff_getElem.1 hx;rw[ha j (by omega) hj];decide
def mt (ns:List Nd) (v i:Nat):Bool:=mkd (marks ns v) i && mkd (marks ns i) v
def lwt (ns:List Nd) (v k:Nat):Nat:=(List.range k).countP (mt ns v)
theorem zsp (ns:List Nd) (v k:Nat):lwt ns v (k+1)=lwt ns v k+(if mt ns v k=true then 1 else 0):=by
 unfold lwt;rw[List.range_succ,List.countP_append,List.countP_singleton]
theorem zxq (ns:List Nd) (v k:Nat):lwt ns v k<=k:=by
 unfold lwt;exact Nat.le_trans List.countP_le_length (by simp)
def seen (ns:List Nd) (v k:Nat) (P:List Nat) (x:Nat):Prop:=(∃u,u<k/\mt ns v u=true/\x∈succ ns u/\mkd (marks ns x) v=false)\/(x∈P/\mkd (marks ns x) v=false)
structure LBest (ns:List Nd) (F:Nat->Nat) (v k:Nat) (P:List Nat) (b:Nat):Prop where
 ge:∀x,seen ns v k P x->F x<=b
 at_:b=0\/∃x,seen ns v k P x/\b=F x
section
variable {ns:List Nd} {F:Nat->Nat} {v k b:Nat} {P:List Nat}
theorem LBest.start:LBest ns F v 0 [] 0:=⟨by
 rintro x (⟨u,hu,_⟩|⟨h,_⟩)
 ·omega
 ·simp at h,.inl rfl⟩
theorem LBest.skip (h:LBest ns F v k [] b) (hm:mt ns v k=false):LBest ns F v (k+1) [] b:=by
 have e:∀x,seen ns v (k+1) [] x↔seen ns v k [] x:=by
  intro x;unfold seen;constructor
  ·grind
  ·grind
 exact⟨fun x hx=>h.ge x ((e x).1 hx),h.at_.imp id (fun⟨x,h1,h2⟩=>⟨x,(e x).2 h1,h2⟩)⟩
theorem LBest.next (h:LBest ns F v k P b) (hm:mt ns v k=true) (hP:P=succ ns k):LBest ns F v (k+1) [] b:=by
 have e:∀x,seen ns v (k+1) [] x↔seen ns v k P x:=by
  intro x;unfold seen;constructor
  ·grind
  ·grind
 exact⟨fun x hx=>h.ge x ((e x).1 hx),h.at_.imp id (fun⟨x,h1,h2⟩=>⟨x,(e x).2 h1,h2⟩)⟩
theorem LBest.old (h:LBest ns F v k P b) {y:Nat} (hy:mkd (marks ns y) v=true):LBest ns F v k (P++[y]) b:=by
 have e:∀x,seen ns v k (P++[y]) x↔seen ns v k P x:=by
  intro x;unfold seen;constructor
  ·grind
  ·grind
 exact⟨fun x hx=>h.ge x ((e x).1 hx),h.at_.imp id (fun⟨x,h1,h2⟩=>⟨x,(e x).2 h1,h2⟩)⟩
theorem LBest.new (h:LBest ns F v k P b) {y:Nat} (hy:mkd (marks ns y) v=false):LBest ns F v k (P++[y]) (max b (F y)):=by
 have e:∀x,seen ns v k (P++[y]) x↔seen ns v k P x\/x=y:=by
  intro x;unfold seen;constructor
  ·grind
  ·grind
 refine⟨fun x hx=>?_,?_⟩
 ·rcases(e x).1 hx with h1|rfl
  ·exact Nat.le_trans (h.ge x h1) (Nat.le_max_left _ _)
  ·exact Nat.le_max_right _ _
 ·rcases Nat.le_total b (F y)with h1|h1
  ·grind
  ·rw[Nat.max_eq_left h1];exact h.at_.imp id (fun⟨x,h2,h3⟩=>⟨x,(e x).2 (.inl h2),h3⟩)
theorem zk7 (hr:Refs ns) (hv:v<ns.length) {i:Nat} (hi:i<ns.length):mt ns v i=true↔Reach (succ ns) v i/\Reach (succ ns) i v:=by
 unfold mt;rw[Bool.and_eq_true,za2 hr hv,za2 hr hi]
theorem zpj (hr:Refs ns) {x:Nat} (hx:x<ns.length):mkd (marks ns x) v=false↔¬Reach (succ ns) x v:=by
 rw[<-za2 hr hx,Bool.not_eq_true]
open Classical in
theorem zxr (hr:Refs ns) (hv:v<ns.length):lwt ns v ns.length=wt (succ ns) ns.length v:=by
 unfold lwt wt;apply List.countP_congr;intro i hi;rw[zk7 hr hv (List.mem_range.1 hi),decide_eq_true_eq]
theorem LBest.last (hr:Refs ns) (hv:v<ns.length) (hF:LongR (succ ns) ns.length F) (h:LBest ns F v ns.length [] b):lwt ns v ns.length+b=F v:=by
 rw[zxr hr hv];have hs:∀x,seen ns v ns.length [] x->wt (succ ns) ns.length v+F x<=F v:=by
  rintro x (⟨u,hu,h1,h2,h3⟩|⟨h1,_⟩)
  ·have h4:=(zk7 hr hv hu).1 h1;exact hF.up v u hv hu h4.1 h4.2 x h2 ((zpj hr (hr.succ u x h2)).1 h3)
  ·simp at h1
 have hle:wt (succ ns) ns.length v+b<=F v:=by
  rcases h.at_ with h1|⟨x,h1,rfl⟩
  ·subst h1;rcases hF.att v hv with h2|⟨u,_,_,_,x,_,_,h2⟩
   ·omega
   ·omega
  ·exact hs x h1
 rcases hF.att v hv with h2|⟨u,hu,h3,h4,x,hx,hn,h2⟩
 ·omega
 ·have:=h.ge x (.inl ⟨u,hu,(zk7 hr hv hu).2 ⟨h3,h4⟩,hx,(zpj hr (hr.succ u x hx)).2 hn⟩);omega
theorem LongR.lt (hF:LongR (succ ns) ns.length F) (hr:Refs ns) (hv:v<ns.length) {u x:Nat} (hu:u<ns.length) (hm:mt ns v u=true) (hx:x∈succ ns u) (hn:mkd (marks ns x) v=false):F x<F v:=by
 have h4:=(zk7 hr hv hu).1 hm;have:=hF.up v u hv hu h4.1 h4.2 x hx ((zpj hr (hr.succ u x hx)).1 hn);have:=zk2 (succ ns) ns.length v hv;omega
theorem LongR.pos (hF:LongR (succ ns) ns.length F) (hv:v<ns.length):0<F v:=by
 have:=zk2 (succ ns) ns.length v hv;rcases hF.att v hv with h2|⟨_,_,_,_,_,_,_,h2⟩<;>omega
end
def rtree (ns:List Nd):Bool:=(List.range ns.length).all (fun u=>((ns[u]?.map Nd.items).getD []).all (fun x=>!(mkd (marks ns x) u)))
theorem zpk {ns:List Nd} (hr:Refs ns):rtree ns=true↔∀(u:Nat) (hu:u<ns.length),∀x∈ns[u].items,¬Reach (succ ns) x u:=by
 unfold rtree;rw[List.all_eq_true];constructor
 ·intro h u hu x hx;have:=h u (List.mem_range.2 hu);rw[List.getElem?_eq_getElem hu,List.all_eq_true]at this;have:=this x hx;rw[Bool.not_eq_true']at this;exact(zpj hr (hr _ (List.getElem_mem hu) x (List.mem_append_right _ hx))).1 this
 ·intro h u hu;have hu:=List.mem_range.1 hu;rw[List.getElem?_eq_getElem hu,List.all_eq_true];intro x hx;rw[Bool.not_eq_true'];exact(zpj hr (hr _ (List.getElem_mem hu) x (List.mem_append_right _ hx))).2 (h u hu x hx)
structure WellF (ns:List Nd) (r:Nat):Prop where
 root:r<ns.length
 refs:Refs ns
 ok:NodesOk ns
 all:∀v,v<ns.length->Reach (succ ns) r v
 one:∀x,x<ns.length->mkd (inKeys ns) x=true->(counts ns r).getD x 0=1
theorem zga {sclr:Int->Str->Bool} (hs:∀k t,sclr k t=true->0<=k/\k<=8) {is:List Ni} {root:Int} (h:rwell sclr is root=true):∃r:Nat,root=(r:Int)/\WellF (is.map Ni.nd) r/\is.all (rng is.length)=true:=by
 unfold rwell at h;split at h
 ·cases h
 ·rename_i h2;split at h
  ·cases h
  ·rename_i h3;rw[Bool.not_eq_false]at h3;have hroot:inR is.length root=true:=by
    grind
   have hrng:is.all (rng is.length)=true:=List.all_eq_true.2 (fun x hx=>zfb (List.all_eq_true.1 h3 x hx));obtain⟨_,href⟩:=za8 hrng;have hlen:(is.map Ni.nd).length=is.length:=by simp
   unfold inR at hroot;rw[Bool.and_eq_true,decide_eq_true_eq,decide_eq_true_eq]at hroot;have hr0:root.toNat<(is.map Ni.nd).length:=by rw[hlen];omega
   have hnd:∀i,i<(is.map Ni.nd).length->rnode (is.map Ni.nd) root.toNat i=true:=fun i hi=>List.all_eq_true.1 h i (List.mem_range.2 (by rw[hlen]at hi;exact hi))
   refine⟨root.toNat,by omega,⟨hr0,href,?_,?_,?_⟩,hrng⟩
   ·intro x hx;obtain⟨y,hy,rfl⟩:=List.mem_map.1 hx;have:=List.all_eq_true.1 h3 y hy;rw[zg6 sclr is.length y (List.all_eq_true.1 hrng y hy)]at this;exact zij hs this
   ·intro v hv;have:=hnd v hv;unfold rnode at this;rw[Bool.and_eq_true]at this;exact(za2 href hr0 v).1 this.1
   ·intro x hx hin;have:=hnd x hx;unfold rnode at this;rw[Bool.and_eq_true,hin,Bool.true_and,Bool.not_eq_true']at this;simpa using this.2
section
variable {ns:List Nd} {r:Nat}
theorem WellF.tall (h:WellF ns r):∀k∈allKeys ns,k<ns.length/\Tall' ns ns.length k:=fun k hk=>by
 obtain⟨a,b⟩:=ze8 h.refs h.root h.all h.one k hk;exact⟨a,zo5 ns _ _ b⟩
theorem WellF.keep (h:WellF ns r):∀u,mkd (inKeys ns) u=true->∀v∈succ ns u,mkd (inKeys ns) v=true:=by
 intro u hu v hv;obtain⟨k,h1,h2⟩:=(zam h.refs u).1 hu;exact(zam h.refs v).2 ⟨k,h1,h2.trans (.one hv)⟩
theorem WellF.key (h:WellF ns r):∀k∈allKeys ns,mkd (inKeys ns) k=true:=fun k hk=>(zam h.refs k).2 ⟨k,hk,.refl _⟩
theorem WellF.count (h:WellF ns r):∀x,mkd (inKeys ns) x=true->(Gr.refs ns).count x<=1:=by
 intro x hx;by_cases hxl:x<ns.length
 ·have:=h.one x hxl hx;rw[zb5 hxl]at this;split at this<;>omega
 ·have:¬x∈Gr.refs ns:=by
   intro hm;obtain⟨n,h1,h2⟩:=List.mem_flatMap.1 hm;exact hxl (h.refs n h1 x h2)
  rw[List.count_eq_zero.2 this];omega
theorem zxs {ns:List Nd} (b:Nat) (hb:∀x∈ns,x.text.length+30<=b):∀k,k<=ns.length->wtS ns (List.range k)<=k*b:=by
 intro k
 induction k with
 |zero=>intro _;simp[wtS]
 |succ k ih=>
  intro hk;have h1:=ih (by omega);have h2:=hb _ (List.getElem_mem (show k<ns.length by omega));have e:wtS ns (List.range (k+1))=wtS ns (List.range k)+wtN ns k:=by unfold wtS;rw[List.range_succ];simp
  have e2:wtN ns k=ns[k].text.length+30:=by unfold wtN;rw[List.getElem?_eq_getElem (by omega)];rfl
  rw[e,e2,Nat.succ_mul];omega
theorem WellF.plen (h:WellF ns r) (hn:ns.length<=100) (hb:∀x∈ns,x.text.length<=1000/\x.items.length<=1000) (f i:Nat) (hf:f<=ns.length) (hi:i<ns.length) (hk:mkd (inKeys ns) i=true):(printF ns f i).length<=20000000:=by
 have h1:=zph h.refs h.ok (fun x hx=>⟨by have:=hb x hx;omega,by have:=hb x hx;omega⟩) h.keep h.count f i hi hk;have h2:=zxs 1030 (fun x hx=>by have:=hb x hx;omega) ns.length (Nat.le_refl _);have h3:f*wtS ns (List.range ns.length)<=100*(100*1030):=Nat.mul_le_mul (by omega) (Nat.le_trans h2 (Nat.mul_le_mul hn (Nat.le_refl _)));omega
theorem WellF.depth (h:WellF ns r):∃F:Nat->Nat,LongR (succ ns) ns.length F/\(Gr.depth ns r).1=(F r:Int)-1/\(Gr.depth ns r).2=rtree ns:=by
 obtain⟨F,h1,h2,h3⟩:=ze9 h.refs h.root h.all;refine⟨F,h1,h2,?_⟩;rw[Bool.eq_iff_iff,h3,zpk h.refs,zmj h.refs h.root h.all h.one]
end
def few (is:List Ni):Bool:=
 decide (is.length<=40) && (is.all (fun n=>decide (n.text.length<=100/\n.keys.length<=80/\n.items.length<=80)) && (decide ((is.map (fun n=>n.keys.length+n.items.length)).sum<=240) && decide ((is.map (fun n=>n.text.length)).sum<=300)))
theorem zjt {is:List Ni} (h:few is=true):is.length<=40:=by
 unfold few at h;rw[Bool.and_eq_true,decide_eq_true_eq]at h;exact h.1
theorem zju {is:List Ni} (h:few is=true):∀n∈is,n.text.length<=100/\n.keys.length<=80/\n.items.length<=80:=by
 unfold few at h;rw[Bool.and_eq_true,Bool.and_eq_true]at h;intro n hn;exact of_decide_eq_true (List.all_eq_true.1 h.2.1 n hn)
def fsum (is:List Ni) (k:Nat):Nat:=((is.take k).map (fun n=>n.keys.length+n.items.length)).sum
def fbyt (is:List Ni) (k:Nat):Nat:=((is.take k).map (fun n=>n.text.length)).sum
theorem zpl {is:List Ni} {k:Nat} (h:k<is.length):fsum is (k+1)=fsum is k+(is[k].keys.length+is[k].items.length):=by
 unfold fsum;rw[List.take_succ_eq_append_getElem h,List.map_append,List.sum_append];rfl
theorem zpm {is:List Ni} {k:Nat} (h:k<is.length):fbyt is (k+1)=fbyt is k+is[k].text.length:=by
 unfold fbyt;rw[List.take_succ_eq_append_getElem h,List.map_append,List.sum_append];rfl
theorem zvj {is:List Ni} (h:¬is.length<=40):few is=false:=by
 unfold few;rw[decide_eq_false h];rfl
theorem zvk {is:List Ni} {k:Nat} (h:k<is.length) (hn:¬(is[k].text.length<=100/\is[k].keys.length<=80/\is[k].items.length<=80)):few is=false:=by
 unfold few;have:is.all (fun n=>decide (n.text.length<=100/\n.keys.length<=80/\n.items.length<=80))=false:=by
  grind
 rw[this];simp
theorem zvl {is:List Ni} {k:Nat} (h:is.length<=k) (h1:is.length<=40) (h2:∀j,j<k->∀(hj:j<is.length),is[j].text.length<=100/\is[j].keys.length<=80/\is[j].items.length<=80):few is=(decide (fsum is k<=240) && decide (fbyt is k<=300)):=by
 unfold few fsum fbyt;rw[List.take_of_length_le h,decide_eq_true h1,Bool.true_and];have:is.all (fun n=>decide (n.text.length<=100/\n.keys.length<=80/\n.items.length<=80))=true:=by
  rw[List.all_eq_true];intro x hx;obtain⟨j,hj,rfl⟩:=List.mem_iff_getElem.1 hx;exact decide_eq_true (h2 j (by omega) hj)
 rw[this,Bool.true_and]
end Gr
open Go.RowKit Go.WideShapes Go.ChangeShapes Go.Deep
theorem zrz {α:Type} {Q:Nat->α->Prop} {n:Nat} (h:∀i,i<n->∃x,Q i x):∃l:List α,l.length=n/\∀i (hi:i<l.length),Q i l[i]:=by
 induction n with
 |zero=>exact⟨[],rfl,fun i h=>by simp at h⟩
 |succ n ih=>
  obtain⟨l,hll,hl⟩:=ih (fun i hi=>h i (by omega));obtain⟨x,hx⟩:=h n (by omega);refine⟨l++[x],by simp[hll],fun i hi=>?_⟩;by_cases hil:i<l.length
  ·grind
  ·grind
theorem row_of {α:Type} (L:Lay α) {w:World} {a:Addr} {l:List α} (h:∀i (hi:i<l.length) j u,(L.enc l[i])[j]? =some u->w.cell? (a.add (i*L.sz+j))=some u):RowAt L w w.heap.size (some a) l:=by
 have key:∀j u,(L.all l)[j]? =some u->w.cell? (a.add j)=some u:=by
  intro j u hj;have hp:=L.pos;have hjl:j<l.length*L.sz:=by have:=(List.getElem?_eq_some_iff.1 hj).1;rwa[L.all_len]at this
  have hk:j /L.sz<l.length:=Nat.div_lt_of_lt_mul (by rw[Nat.mul_comm];exact hjl);have hm:j%L.sz<L.sz:=Nat.mod_lt _ hp;have he:=L.len l[j /L.sz];obtain⟨u',hu'⟩:∃u',(L.enc l[j /L.sz])[j%L.sz]? =some u':=⟨_,List.getElem?_eq_getElem (l:=L.enc l[j /L.sz]) (i:=j%L.sz) (by rw[he];exact hm)⟩
  have e1:=L.all_at l (j /L.sz) l[j /L.sz] (List.getElem?_eq_getElem hk) (j%L.sz) u' hu';have e2:j /L.sz*L.sz+j%L.sz=j:=by rw[Nat.mul_comm];exact Nat.div_add_mod j L.sz
  rw[e2]at e1;rw[e1]at hj;injection hj with hj
  subst hj;have:=h _ hk _ _ hu';rwa[e2]at this
 refine⟨L.all_len l,fun hn=>⟨a,rfl,?_,key⟩⟩;have h0:0<(L.all l).length:=by rw[L.all_len];exact Nat.mul_pos hn L.pos
 have:=World.block_lt_of_cell? w _ (key 0 _ (List.getElem?_eq_getElem h0));rwa[zbd]at this
section
variable {H:Type} {enc:TypeId×Value->H} {W:World} {r:Reach} {b0 base fuel:Nat} {sp:Nat->Bool} {hd:Bool} {v:Value} {d:DataW H} {p:List MemPlace} {cs:List Value} {x:DataW H×List MemPlace}
theorem zje (h:DataW.trod enc prog W base sp hd fuel 33 cs=some x):
 ∃(A:Option Addr) (c:Nat) (l:List Int),cs=[.slice A l.length c]/\RowAt intI W W.heap.size A l/\l.length<=maxLen:=by
 rcases open_slice1 underlying33 (by kernel_rfl) h with⟨hcs,hx⟩|⟨a,len,cap,m,n,V,D,Pl,rfl,hb,hl,hm,hmm,rfl,hx⟩
 ·exact⟨none,0,[],hcs,RowAt.nil,by simp⟩
 ·have hml:len<=m:=by rw[hmm];split<;>omega
  obtain⟨l,hll,hcells⟩:=zrz (Q:=fun i (x:Int)=>W.cell? (a.add i)=some (.int .i64 x)) (n:=len) (fun i hi=>by
   obtain⟨h1,h2⟩:=hx i (by omega);obtain⟨n,e,_⟩:=DataW.trod_int underlying3 h2;injection e with e
   exact⟨n,by rw[h1,e]⟩)
  subst hll;refine⟨some a,cap,l,rfl,row_of intI (fun i hi j u hu=>?_),by omega⟩;have hj:j=0:=by
   have:=(List.getElem?_eq_some_iff.1 hu).1;have h1:(intI.enc l[i]).length=1:=rfl;omega
  subst hj;have hu:some (Value.int .i64 l[i])=some u:=hu;rw[<-hu,<-hcells i hi];show W.cell? (a.add (i*1+0))=_;rw[Nat.mul_one,Nat.add_zero]
theorem znw (h:DataW.trod enc prog W base sp hd fuel 22 cs=some x):
 ∃(A:Option Addr) (c:Nat) (vs:List NV) (is:List Gr.Ni),cs=[.slice A is.length c]/\IAt W W.heap.size A vs is/\is.length<=maxLen/\∀y∈is,y.text.length<=maxLen/\y.keys.length<=maxLen/\y.items.length<=maxLen:=by
 have hcn:prog.cellsOf 35=5:=by kernel_rfl
 have hci:prog.cellsOf 3=1:=by kernel_rfl
 have hcs_:prog.cellsOf 9=1:=by kernel_rfl
 have hcb:prog.cellsOf 4=1:=by kernel_rfl
 have hcl:prog.cellsOf 33=1:=by kernel_rfl
 obtain⟨fs,hfs⟩:∃fs:Array Field,prog.underlying 35=some (.struct fs)/\fs.map (fun f=>(f.type,f.offset))=#[(3,0),(9,1),(4,2),(33,3),(33,4)]:=⟨_,underlying35,by kernel_rfl⟩
 obtain⟨hfs,hft⟩:=hfs;have hfg:∀(i:Nat) (t:TypeId) (o:Nat),(#[(3,0),(9,1),(4,2),(33,3),(33,4)]:Array (TypeId×Nat))[i]? =some (t,o)->∃f:Field,fs[i]? =some f/\f.type=t/\f.offset=o:=by
  grind
 rcases open_slice underlying22 h with⟨hcs,hx⟩|⟨a,len,cap,m,n,D,Pl,rfl,hb,hl,hm,hmm,rfl,hx⟩
 ·exact⟨none,0,[],[],hcs,⟨RowAt.nil,rfl,fun j h=>by simp at h,fun j h=>by simp at h⟩,by simp,by simp⟩
 ·have hml:len<=m:=by rw[hmm];split<;>omega
  obtain⟨l,hll,hcells⟩:=zrz (n:=len) (Q:=fun i (x:NV×Gr.Ni)=>(∀j u,(nodeL.enc x.1)[j]? =some u->W.cell? (a.add (i*5+j))=some u)/\(x.1.kind=x.2.kind/\x.1.text=x.2.text/\x.1.ord=x.2.ord)/\
   (RowAt intI W W.heap.size x.1.k.a x.2.keys/\x.1.k.n=x.2.keys.length/\RowAt intI W W.heap.size x.1.i.a x.2.items/\x.1.i.n=x.2.items.length)/\x.2.text.length<=maxLen/\x.2.keys.length<=maxLen/\x.2.items.length<=maxLen) (fun i hi=>by
   obtain⟨cs',h1,h2⟩:=hx i (by omega);rw[hcn]at h1;obtain⟨_,hlen,hat⟩:=World.cells?_some h1;obtain⟨xs,n',_,_,_,hxl,hf⟩:=DataW.trod_struct hfs h2;have hsz:fs.size=5:=by have:=congrArg Array.size hft;simpa using this
   obtain⟨f0,g0,t0,o0⟩:=hfg 0 _ _ rfl;obtain⟨f1,g1,t1,o1⟩:=hfg 1 _ _ rfl;obtain⟨f2,g2,t2,o2⟩:=hfg 2 _ _ rfl;obtain⟨f3,g3,t3,o3⟩:=hfg 3 _ _ rfl;obtain⟨f4,g4,t4,o4⟩:=hfg 4 _ _ rfl;have e0:=hf 0 f0 g0;have e1:=hf 1 f1 g1;have e2:=hf 2 f2 g2;have e3:=hf 3 f3 g3;have e4:=hf 4 f4 g4;rw[t0,o0,hci,List.getElem?_eq_getElem (by omega)]at e0;rw[t1,o1,hcs_,List.getElem?_eq_getElem (by omega)]at e1;rw[t2,o2,hcb,List.getElem?_eq_getElem (by omega)]at e2;rw[t3,o3,hcl,List.getElem?_eq_getElem (by omega)]at e3;rw[t4,o4,hcl,List.getElem?_eq_getElem (by omega)]at e4;obtain⟨k,k1,_⟩:=DataW.trod_int underlying3 e0;obtain⟨s,s1,_,s3⟩:=DataW.trod_string underlying9 e1;obtain⟨b,b1,_⟩:=DataW.trod_bool underlying4 e2;obtain⟨A3,c3,l3,r3,q3,z3⟩:=zje e3;obtain⟨A4,c4,l4,r4,q4,z4⟩:=zje e4
   match cs',hlen with
   | [v0,v1,v2,v3,v4],_=>
    simp at k1 s1 b1 r3 r4;subst k1 s1 b1 r3 r4;have hs:s=⟨(s.data.toList).toArray⟩:=by apply ByteArray.ext;simp
    have hs2:s.data.toList.length<=maxLen:=by simpa using s3
    refine⟨(⟨k,s.data.toList,b,⟨A3,l3.length,c3⟩,⟨A4,l4.length,c4⟩⟩,⟨k,s.data.toList,b,l3,l4⟩),?_,⟨rfl,rfl,rfl⟩,⟨q3,rfl,q4,rfl⟩,hs2,z3,z4⟩;intro j u hu;have hat':=fun j hj=>hat j hj
    have hj:j<5:=by
     have:=(List.getElem?_eq_some_iff.1 hu).1;exact this
    have hq:=hat j (by omega);rw[zf4]at hq;have hj5:j=0\/j=1\/j=2\/j=3\/j=4:=by omega
    rcases hj5 with rfl|rfl|rfl|rfl|rfl
    ·exact hq.trans hu
    ·have hu:some (Value.string ⟨(s.data.toList).toArray⟩)=some u:=hu;rw[<-hs]at hu;exact hq.trans hu
    ·exact hq.trans hu
    ·exact hq.trans hu
    ·exact hq.trans hu)
  subst hll;refine⟨some a,cap,l.map (·.1),l.map (·.2),by simp,⟨row_of nodeL (fun i hi j u hu=>?_),by simp,fun j h1 h2=>?_,fun j h1 h2=>?_⟩,by simp;omega,fun y hy=>?_⟩
  ·simp only[List.length_map]at hi;rw[List.getElem_map]at hu;exact(hcells i hi).1 j u hu
  ·grind
  ·grind
  ·obtain⟨z,hz,rfl⟩:=List.mem_map.1 hy;obtain⟨i,hi,rfl⟩:=List.mem_iff_getElem.1 hz;exact(hcells i hi).2.2.2
theorem znx (h:DataW.trod enc prog W base sp hd fuel 24 cs=some x):
 ∃(A:Option Addr) (c:Nat) (root:Int) (vs:List NV) (is:List Gr.Ni),cs=[.slice A is.length c,.int .i64 root]/\IAt W W.heap.size A vs is/\is.length<=maxLen/\∀y∈is,y.text.length<=maxLen/\y.keys.length<=maxLen/\y.items.length<=maxLen:=by
 have hci:prog.cellsOf 3=1:=by kernel_rfl
 have hcl:prog.cellsOf 22=1:=by kernel_rfl
 have hcg:prog.cellsOf 24=2:=by kernel_rfl
 obtain⟨fs,hfs⟩:∃fs:Array Field,prog.underlying 24=some (.struct fs)/\fs.map (fun f=>(f.type,f.offset))=#[(22,0),(3,1)]:=⟨_,underlying24,by kernel_rfl⟩
 obtain⟨hfs,hft⟩:=hfs;have hfg:∀(i:Nat) (t:TypeId) (o:Nat),(#[(22,0),(3,1)]:Array (TypeId×Nat))[i]? =some (t,o)->∃f:Field,fs[i]? =some f/\f.type=t/\f.offset=o:=by
  grind
 obtain⟨xs,n',_,_,hlen,hxl,hf⟩:=DataW.trod_struct hfs h;have hsz:fs.size=2:=by have:=congrArg Array.size hft;simpa using this
 obtain⟨f0,g0,t0,o0⟩:=hfg 0 _ _ rfl;obtain⟨f1,g1,t1,o1⟩:=hfg 1 _ _ rfl;have e0:=hf 0 f0 g0;have e1:=hf 1 f1 g1;rw[t0,o0,hcl,List.getElem?_eq_getElem (by omega)]at e0;rw[t1,o1,hci,List.getElem?_eq_getElem (by omega)]at e1;rw[hcg]at hlen;obtain⟨A,c,vs,is,r0,q0,z0,z1⟩:=znw e0;obtain⟨k,k1,_⟩:=DataW.trod_int underlying3 e1
 match cs,hlen with
 | [v0,v1],_=>
  grind
theorem zgl (hv:Value.okWide prog W r b0 24 v) (h:DataW.Trod enc prog W base sp hd 24 v d p):
 ∃(A:Option Addr) (c:Nat) (root:Int) (vs:List NV) (is:List Gr.Ni),v=.agg #[.slice A is.length c,.int .i64 root]/\IAt W W.heap.size A vs is/\is.length<=maxLen/\∀y∈is,y.text.length<=maxLen/\y.keys.length<=maxLen/\y.items.length<=maxLen:=by
 obtain⟨fs,hfs⟩:∃fs:Array Field,prog.underlying 24=some (.struct fs):=⟨_,underlying24⟩
 obtain⟨cs,rfl,_⟩:=okWide_struct hfs hv;obtain⟨fuel,hf⟩:=h;obtain⟨A,c,root,vs,is,e,q⟩:=znx hf;refine⟨A,c,root,vs,is,?_,q⟩;simp only[Value.cells]at e;have:cs=#[.slice A is.length c,.int .i64 root]:=by apply Array.ext';simpa using e
 rw[this]
end
end Go.Proofs.YtoigpackhninoaaGreatDoor

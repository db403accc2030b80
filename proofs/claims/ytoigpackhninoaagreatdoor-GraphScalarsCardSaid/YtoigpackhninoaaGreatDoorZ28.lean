import Derived.Test.YtoigpackhninoaaGreatDoorZ17
import Derived.Test.YtoigpackhninoaaGreatDoorZ14
namespace Go.Proofs.YtoigpackhninoaaGreatDoor
open _root_.Go.Proofs.Tryz
open _root_.Go.Lib (hid)
set_option maxRecDepth 100000
set_option maxHeartbeats 16000000
open Go.RowKit
theorem zp4 (s:ByteArray):∃l:List UInt8,s=⟨l.toArray⟩:=⟨s.data.toList,by apply ByteArray.ext;simp⟩
theorem zp5 (l:List UInt8):(⟨l.toArray⟩:ByteArray).size=l.length:=by simp[ByteArray.size]
theorem zc2 (A A2:Option Addr) (c c2:Nat) (root no:Int) (vs vs2:List NV) (is:List Gr.Ni) (hz:Sz is) (w:World) (h:IAt w w.heap.size A vs is) (h2:IAt w w.heap.size A2 vs2 is) (hck:no=0->ChkOk w (.agg #[.slice A is.length c,.int .i64 root]) 0):
 Calls prog 18 #[.agg #[.slice A is.length c,.int .i64 root],.int .i64 no,.agg #[.slice A2 is.length c2,.int .i64 root],.int .i64 no] w fun e w'=>e=.returned (.bool true)/\Below w.heap.size w w':=by
 have HI:=hid (fun W (hW:Below w.heap.size w W)=>zjt A A2 c c2 root vs vs2 is hz W ((h.below hW).more hW.size) ((h2.below hW).more hW.size));have HCK:=hid hck;obtain⟨N,hN⟩:=ex is.length
 rw[hN]at HI HCK ⊢;clear h h2 hz hck hN;obtain⟨gb,hgb⟩:=ex w.heap.size
 have HGB:=hid hgb;go_enter func18,ntmps18;go_upto_region 1 with fail;obtain⟨w1,hw1⟩:=ex ((w.alloc (.cells #[.slice A N c,.int .i64 root] 24)).alloc (.cells #[.slice A2 N c2,.int .i64 root] 24))
 have HB1:Hid (Blk w1 gb 24 #[.slice A N c,.int .i64 root]/\Blk w1 (gb+1) 24 #[.slice A2 N c2,.int .i64 root]/\Below w.heap.size w w1):=hid (by
  rw[<-hw1,<-hgb];refine⟨(Blk.new _ _ _).alloc _,?_,((Below.refl _ _).alloc (Nat.le_refl _) _).alloc (by simp) _⟩;have:=Blk.new (w.alloc (.cells #[.slice A N c,.int .i64 root] 24)) 24 #[.slice A2 N c2,.int .i64 root];rw[World.size_alloc]at this;exact this)
 (try rw[hw1]);(try rw[hgb]);clear hw1 hgb;obtain⟨a0,a1⟩:=cells2 HB1.out.1;obtain⟨b0,b1⟩:=cells2 HB1.out.2.1;by_cases h0:no=0
 ·have HC0:=hid (HCK.out h0);clear HCK;subst h0;have h0b:((0:Int)==0)=true:=rfl;go_wp2_with fail;refine(HI.out _ HB1.out.2.2).mono ?_;rintro _ w2 ⟨rfl,hb2⟩;have HB2:Hid (Below w.heap.size w w2):=hid (HB1.out.2.2.trans (hb2.mono HB1.out.2.2.size));have x:=HB1.out.1.below hb2 HB1.out.1.lt;obtain⟨e0,e1⟩:=cells2 x;clear hb2 x a0 a1 b0 b1;go_wp2_with fail;refine(HC0.out _ HB2.out).mono ?_;rintro _ w3 ⟨rfl,hb3⟩;have HB3:Hid (Below w.heap.size w w3):=hid (HB2.out.trans (hb3.mono HB2.out.size));clear hb3 e0 e1;go_wp2;go_ret;exact⟨rfl,HB3.out⟩
 ·have h0b:(no==0)=false:=by simpa using h0
  have h0c:(no != 0)=true:=by rw[bne,h0b];rfl
  go_wp2_with fail;refine(HI.out _ HB1.out.2.2).mono ?_;rintro _ w2 ⟨rfl,hb2⟩;have HB2:Hid (Below w.heap.size w w2):=hid (HB1.out.2.2.trans (hb2.mono HB1.out.2.2.size));clear hb2 a0 a1 b0 b1;go_wp2;go_ret;exact⟨rfl,HB2.out⟩
theorem zuc (A:Option Addr) (c:Nat) (root:Int) (vs:List NV) (is:List Gr.Ni) (hs:∀x∈is,x.text.length<=268435455/\x.keys.length<=1073741823/\x.items.length<=1073741823) (hl:is.length<=1073741823) (w:World) (hUT:UT w) (h:IAt w w.heap.size A vs is):
 ChkOk w (.agg #[.slice A is.length c,.int .i64 root]) (checkI sclX is root):=fun W hW=>
 zec UT UT.stays sclX A c root vs is (fun x hx=>by
  obtain⟨y,hy,rfl⟩:=List.mem_map.1 hx;have:=hs y hy;simp only[Gr.Ni.nd,List.length_map];omega) (fun x hx _ _ _ _ _ _=>by
  obtain⟨y,hy,rfl⟩:=List.mem_map.1 hx;exact zqs _ _ (hs y hy).1) hl W (UT.stays _ _ hUT hW) ((h.below hW).more hW.size)
open Gr
theorem zkz (kind:Int) (text:Gr.Str) (hk:kind<0\/8<kind) (w:World):
 Calls prog 16 #[.int .i64 kind,.string ⟨text.toArray⟩] w fun e w'=>e=.returned (.tuple #[gZero,.int .i64 1])/\Below w.heap.size w w':=by
 obtain⟨w1,hw1⟩:=ex (w.alloc (.cells #[.slice none 0 0,.int .i64 0] 24))
 obtain⟨gb,hgb⟩:=ex w.heap.size
 have l1:Below gb w w1:=by rw[<-hw1,<-hgb];exact(Below.refl _ _).alloc (Nat.le_refl _) _
 have b1:Blk w1 gb 24 #[.slice none 0 0,.int .i64 0]:=by rw[<-hw1,<-hgb];exact Blk.new _ _ _
 have HL1:=hid l1;have HGB:=hid hgb;have df:∀i,w1.frozen? ⟨gb,i,none⟩=false:=b1.frozen;obtain⟨d0,d1⟩:=cells2 b1;clear l1 b1;go_enter func16,ntmps16;go_upto_region 1 with fail;(try rw[hw1]);(try rw[hgb]);clear hw1 hgb;rcases hk with hk|hk
 ·go_wp2_with fail;refine bodyPost_ret (v:=.tuple #[gZero,.int .i64 1]) (by rw[results_cell_tmp rfl];go_simp;rfl) rfl ⟨rfl,?_⟩;rw[HGB.out];exact(HL1.out.setCell (by simp) _).setCell (by simp) _
 ·have hk2:¬kind<0:=by omega
  go_wp2_with fail;refine bodyPost_ret (v:=.tuple #[gZero,.int .i64 1]) (by rw[results_cell_tmp rfl];go_simp;rfl) rfl ⟨rfl,?_⟩;rw[HGB.out];exact(HL1.out.setCell (by simp) _).setCell (by simp) _
theorem zf4 (w:World):IAt w w.heap.size none [] []:=
 ⟨(OwnRow.nil (L:=nodeL) (w:=w) (base:=0) (E:=35)).form.elim (fun A h=>by obtain⟨c,h1,h2⟩:=h;injection h1 with e1;subst e1;exact h2),rfl,fun j h=>by simp at h,fun j h=>by simp at h⟩
theorem zqu:Sz []:=⟨by simp,fun x hx=>by cases hx⟩
theorem ztx (kind:Int) (text:Gr.Str) (h:text.length<=9223372036854775807):Sz [⟨kind,text,false,[],[]⟩]:=
 ⟨by simp,fun x hx=>by rw[List.mem_singleton.1 hx];exact⟨h,by simp,by simp⟩⟩
theorem zss (kind:Int) (text:Gr.Str) (h:sclX kind text=true):checkI sclX [⟨kind,text,false,[],[]⟩] 0=0:=by
 have hk:=zhb kind text h;have hf:formB sclX (Gr.Ni.nd ⟨kind,text,false,[],[]⟩)=true:=by
  unfold formB Gr.Ni.nd;simp only[List.map_nil];rw[if_neg (by omega),if_neg (by omega),if_neg (by omega),h];rfl
 have e0:checkI sclX [⟨kind,text,false,[],[]⟩] 0=checkN sclX [⟨kind,text,false,[],[]⟩] 0:=rfl;have hm:marks [⟨kind,text,false,[],[]⟩] 0=[true]:=rfl;have hin:inKeys [⟨kind,text,false,[],[]⟩]=[false]:=rfl;have ht:twice [⟨kind,text,false,[],[]⟩] 1=false:=rfl;have hd:(depth [⟨kind,text,false,[],[]⟩] 0).1=0:=rfl;rw[e0];unfold checkN;rw[hm,hin];have e1:(List.range 1).all (fun i=>[true].getD i false && formB sclX (([⟨kind,text,false,[],[]⟩]:List Gr.Nd).getD i ⟨0,[],false,[],[]⟩))=true:=by
  show((true && formB sclX ⟨kind,text,false,[],[]⟩) && true)=true;have hf:formB sclX ⟨kind,text,false,[],[]⟩=true:=hf;rw[hf];rfl
 rw[if_neg (by rw[List.length_singleton,e1];simp),if_neg (by rw[List.length_singleton];show¬(false=true);decide),List.length_singleton,ht,hd];rfl
theorem zhe (kind:Int) (text:Gr.Str) (hmx:text.length<=9223372036854775807) (w:World) (hUT:UT w):Calls prog 4 #[.int .i64 kind,.string ⟨text.toArray⟩] w fun e w'=>e=.returned (.bool true)/\Below w.heap.size w w':=by
 have HT:=hid hUT;have HAW:=hid (fun W hW=>zn2 W hW);clear hUT;by_cases h3:text.length<=300
 ·have h3I:¬(300:Int)<(text.length:Int):=by omega
  have HAG:=hid (fun A A2 c c2 root no vs vs2 is hz W h h2 hck=>zc2 A A2 c c2 root no vs vs2 is hz W h h2 hck);by_cases hk:kind<0\/8<kind
  ·have HS:=hid (fun W=>zkz kind text hk W);unfold gZero at HS;have HG:=hid (fun W=>zc2 none none 0 0 0 1 [] [] [] zqu W (zf4 W) (zf4 W) (by simp));have hkd:kind<0\/(¬kind<0/\8<kind):=by omega
   clear hk HAG;rcases hkd with hk|⟨hk,hk2⟩
   all_goals
    go_enter func4,ntmps4;go_wp2_with fail;refine(HS.out _).mono ?_;rintro _ w1 ⟨rfl,hb1⟩;have HB1:=hid hb1;clear hb1;go_wp2_with fail;refine(HG.out _).mono ?_;rintro _ w2 ⟨rfl,hb2⟩;have HB2:Hid (Below w.heap.size w w2):=hid (((HB1.out.alloc HB1.out.size _).alloc (by have:=HB1.out.size;simp;omega) _).trans (hb2.mono (by have:=HB1.out.size;simp;omega)));clear hb2;go_wp2_with fail;refine(HAW.out _ (UT.stays _ _ HT.out HB2.out)).mono ?_;rintro _ w3 ⟨rfl,hb3⟩;have HB3:Hid (Below w.heap.size w w3):=hid (HB2.out.trans (hb3.mono HB2.out.size));clear hb3;go_wp2;go_ret;exact⟨rfl,HB3.out⟩
  ·have hk1:0<=kind:=by omega
   have hk2:kind<=8:=by omega
   have n1:¬kind<0:=by omega
   have n2:¬(8:Int)<kind:=by omega
   have HS:=hid (fun W hW=>zcd UT UT.stays kind text (sclX kind text) hk1 hk2 (zqs kind text (by omega)) W hW);have HR:=hid (fun W=>zsk kind text (by omega) W);cases hr:sclX kind text with
   |false=>
    have HG:=hid (fun W=>zc2 none none 0 0 0 3 [] [] [] zqu W (zf4 W) (zf4 W) (by simp));rw[hr]at HS HR;clear hk HAG hr;go_enter func4,ntmps4;go_wp2_with fail;refine(HS.out _ HT.out).mono ?_;rintro _ w1 ⟨hb1,hs1,_⟩;have hs1:=hs1 rfl;unfold gZero at hs1;subst hs1;have HB1:=hid hb1;clear hb1;go_wp2_with fail;refine(HR.out _).mono ?_;rintro _ w2 ⟨rfl,hb2⟩;have HB2:Hid (Below w.heap.size w w2):=hid (((HB1.out.alloc HB1.out.size _).alloc (by have:=HB1.out.size;simp;omega) _).trans (hb2.mono (by have:=HB1.out.size;simp;omega)));obtain⟨gs,hgs⟩:=ex w1.heap.size
    have HBL:Hid (Blk w2 gs 24 #[.slice none 0 0,.int .i64 0]/\Blk w2 (gs+1) 24 #[.slice none 0 0,.int .i64 0]):=hid (by
     rw[<-hgs];have x1:=(Blk.new w1 24 #[.slice none 0 0,.int .i64 0]).alloc (.cells #[.slice none 0 0,.int .i64 0] 24);have x2:=Blk.new (w1.alloc (.cells #[.slice none 0 0,.int .i64 0] 24)) 24 #[.slice none 0 0,.int .i64 0];rw[World.size_alloc]at x2;exact⟨x1.below hb2 x1.lt,x2.below hb2 x2.lt⟩)
    (try rw[hgs]);clear hb2 hgs;obtain⟨c0,c1⟩:=cells2 HBL.out.1;obtain⟨d0,d1⟩:=cells2 HBL.out.2;go_wp2_with fail;refine(HG.out _).mono ?_;rintro _ w4 ⟨rfl,hb4⟩;have HB4:Hid (Below w.heap.size w w4):=hid (HB2.out.trans (hb4.mono HB2.out.size));clear hb4;go_wp2_with fail;refine(HAW.out _ (UT.stays _ _ HT.out HB4.out)).mono ?_;rintro _ w3 ⟨rfl,hb3⟩;have HB3:Hid (Below w.heap.size w w3):=hid (HB4.out.trans (hb3.mono HB4.out.size));clear hb3;go_wp2;go_ret;exact⟨rfl,HB3.out⟩
   |true=>
    rw[hr]at HS HR;have HCO:=hid (zss kind text hr);clear hk hr;go_enter func4,ntmps4;go_wp2_with fail;refine(HS.out _ HT.out).mono ?_;rintro _ w1 ⟨hb1,_,hs1⟩;obtain⟨gn,hgn,he,hbn⟩:=hs1 rfl;subst he;have HB1:=hid hb1;have HGN:Hid (w.heap.size<=gn/\Blk w1 gn 35 #[.int .i64 kind,.string ⟨text.toArray⟩,.bool false,.slice none 0 0,.slice none 0 0]):=hid ⟨hgn,hbn⟩;clear hb1 hs1 hgn hbn;go_wp2_with fail;refine(HR.out _).mono ?_;rintro _ w2 ⟨rfl,hb2⟩;have HB2:Hid (Below w.heap.size w w2):=hid (((HB1.out.alloc HB1.out.size _).alloc (by have:=HB1.out.size;simp;omega) _).trans (hb2.mono (by have:=HB1.out.size;simp;omega)));obtain⟨gs,hgs⟩:=ex w1.heap.size
    have HBL:Hid (Blk w2 gs 24 #[.slice (some ⟨gn,0,none⟩) 1 1,.int .i64 0]/\Blk w2 (gs+1) 24 #[.slice none 0 0,.int .i64 0]/\Blk w2 gn 35 #[.int .i64 kind,.string ⟨text.toArray⟩,.bool false,.slice none 0 0,.slice none 0 0]/\w.heap.size<=gs):=hid (by
     rw[<-hgs];have x1:=(Blk.new w1 24 #[.slice (some ⟨gn,0,none⟩) 1 1,.int .i64 0]).alloc (.cells #[.slice none 0 0,.int .i64 0] 24);have x2:=Blk.new (w1.alloc (.cells #[.slice (some ⟨gn,0,none⟩) 1 1,.int .i64 0] 24)) 24 #[.slice none 0 0,.int .i64 0];rw[World.size_alloc]at x2;have x3:=(HGN.out.2.alloc (.cells #[.slice (some ⟨gn,0,none⟩) 1 1,.int .i64 0] 24)).alloc (.cells #[.slice none 0 0,.int .i64 0] 24);exact⟨x1.below hb2 x1.lt,x2.below hb2 x2.lt,x3.below hb2 x3.lt,HB1.out.size⟩)
    (try rw[hgs]);clear hb2 hgs;obtain⟨c0,c1⟩:=cells2 HBL.out.1;obtain⟨d0,d1⟩:=cells2 HBL.out.2.1;have df:∀i,w2.frozen? ⟨gs+1,i,none⟩=false:=HBL.out.2.1.frozen;go_wp2_with (at_builtin;go_must (refine zac _ rfl (.tmp 21) (.tmp 25) 22 35 80 rfl nodeT (gs+2) (.slice none 0 0) [] rfl OwnRow.nil _ _ 1 [⟨kind,text,false,SV.nil,SV.nil⟩] rfl (RowAt.lit1 _ _ rfl _ ?_) ?_ ?_ ?_))
    ·rfl
    ·simp
    ·rw[World.size_alloc];have:=HBL.out.2.1.lt;omega
    intro v' w3 hown3 hg3 _;have hown3:OwnRow nodeL w3 (gs+2) 35 v' [⟨kind,text,false,SV.nil,SV.nil⟩]:=hown3;obtain⟨w2a,hw2a⟩:=ex (w2.alloc (.cells #[.int .i64 kind,.string ⟨text.toArray⟩,.bool false,.slice none 0 0,.slice none 0 0] 35))
    have hbw:Below w2a.heap.size w2a w3:=by rw[<-hw2a];exact(Below.refl _ _).grown hg3 (Nat.le_refl _) (fun k hk=>by cases hk)
    have hb2a:Below w2.heap.size w2 w3:=by
     rw[<-hw2a]at hbw;exact((Below.refl _ _).alloc (Nat.le_refl _) _).trans (hbw.mono (by simp))
    have hown4:OwnRow nodeL (w3.setCell ⟨gs+1,0,none⟩ v') (gs+2) 35 v' [⟨kind,text,false,SV.nil,SV.nil⟩]:=hown3.setCell (by intro e;have:=(hown3.lt _ e).1;simp only at this;omega) _;obtain⟨A2,c2,hv',hrow⟩:=hown4.form;have hv':v'=.slice A2 1 c2:=hv';subst hv';have x1:=(HBL.out.1.below hb2a HBL.out.1.lt).far (p:=⟨gs+1,0,none⟩) (by simp) (.slice A2 1 c2);have x2:=(HBL.out.2.1.below hb2a HBL.out.2.1.lt).set_ 0 (.slice A2 1 c2);have x3:=(HBL.out.2.2.1.below hb2a HBL.out.2.2.1.lt).far (p:=⟨gs+1,0,none⟩) (by intro e;have:=HBL.out.2.1.ne_ HBL.out.2.2.1 (by decide);exact this e.symm) (.slice A2 1 c2);have x4:=(HBL.out.2.1.below hb2a HBL.out.2.1.lt)
    have g0:w3.cell? ⟨gs+1,0,none⟩=some (.slice none 0 0):=x4.cell 0;have g1:∀i,w3.frozen? ⟨gs+1,i,none⟩=false:=x4.frozen;obtain⟨w4,hw4⟩:=ex (w3.setCell ⟨gs+1,0,none⟩ (.slice A2 1 c2))
    have HL4:Hid (Below w.heap.size w w4):=hid (by rw[<-hw4];exact(HB2.out.trans (hb2a.mono HB2.out.size)).setCell (by simp only;have:=HBL.out.2.2.2;omega) _);rw[hw4]at x1 x2 x3 hrow;have HAGR:Hid (Calls prog 18 #[.agg #[.slice (some ⟨gn,0,none⟩) 1 1,.int .i64 0],.int .i64 0,.agg #[.slice A2 1 c2,.int .i64 0],.int .i64 0] w4 fun e w'=>e=.returned (.bool true)/\Below w4.heap.size w4 w'):=hid (by
     have hi1:IAt w4 w4.heap.size (some ⟨gn,0,none⟩) [⟨kind,text,false,SV.nil,SV.nil⟩] [⟨kind,text,false,[],[]⟩]:=(zep x3).toI;refine zc2 (some ⟨gn,0,none⟩) A2 1 c2 0 0 [⟨kind,text,false,SV.nil,SV.nil⟩] [⟨kind,text,false,SV.nil,SV.nil⟩] [⟨kind,text,false,[],[]⟩] (ztx kind text hmx) w4 hi1 ?_ (fun _=>?_)
     ·exact⟨hrow,rfl,hi1.kind,fun j h h2=>by
       have hj:j=0:=by simp at h;omega
       subst hj;exact⟨RowAt.nil,rfl,RowAt.nil,rfl⟩⟩
     ·have:=zuc (some ⟨gn,0,none⟩) 1 0 _ [⟨kind,text,false,[],[]⟩] (fun x hx=>by rw[List.mem_singleton.1 hx];exact⟨by simp only;omega,by simp,by simp⟩) (by simp) w4 (UT.stays _ _ HT.out HL4.out) hi1;rw[HCO.out]at this;exact this)
    have HX:Hid (Blk w4 gs 24 #[.slice (some ⟨gn,0,none⟩) 1 1,.int .i64 0]/\Blk w4 (gs+1) 24 #[.slice A2 1 c2,.int .i64 0]):=hid ⟨x1,x2⟩;(try rw[hw2a]);clear hw2a hbw hb2a hown3 hown4 hg3 hrow x1 x2 x3 x4 c0 c1 d0 d1 df;obtain⟨c0,c1⟩:=cells2 HX.out.1;obtain⟨d0,d1⟩:=cells2 HX.out.2;go_wp2_with fail;(try rw[hw4]);clear hw4;go_wp2_with fail;refine HAGR.out.mono ?_;rintro _ w5 ⟨rfl,hb5⟩;have HB5:Hid (Below w.heap.size w w5):=hid (HL4.out.trans (hb5.mono HL4.out.size));clear hb5;go_wp2_with fail;refine(HAW.out _ (UT.stays _ _ HT.out HB5.out)).mono ?_;rintro _ w6 ⟨rfl,hb6⟩;have HB6:Hid (Below w.heap.size w w6):=hid (HB5.out.trans (hb6.mono HB5.out.size));clear hb6;go_wp2;go_ret;exact⟨rfl,HB6.out⟩
 ·have h3I:(300:Int)<(text.length:Int):=by omega
  go_enter func4,ntmps4;go_wp2_with fail;refine(HAW.out _ HT.out).mono ?_;rintro _ w1 ⟨rfl,hb1⟩;have HB1:=hid hb1;clear hb1;go_wp2;go_ret;exact⟨rfl,HB1.out⟩
end Go.Proofs.YtoigpackhninoaaGreatDoor

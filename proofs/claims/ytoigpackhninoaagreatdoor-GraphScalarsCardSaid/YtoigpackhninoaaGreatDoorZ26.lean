/- Walks: the scalars, both sides, every kind. Walks: agree; GraphScalars. -/
import Derived.Test.YtoigpackhninoaaGreatDoorZ04
import Derived.Test.YtoigpackhninoaaGreatDoorZ21
import Derived.Test.YtoigpackhninoaaGreatDoorZ22
import Derived.Test.YtoigpackhninoaaGreatDoorZ25
import Derived.Test.YtoigpackhninoaaGreatDoorGrDecR6
import Derived.Test.YtoigpackhninoaaGreatDoorGrUtfR
import Derived.Test.YtoigpackhninoaaGreatDoorZ12
import Derived.Test.YtoigpackhninoaaGreatDoorZ15
namespace Go.Proofs.YtoigpackhninoaaGreatDoor
set_option maxRecDepth 100000
set_option maxHeartbeats 16000000
open Go.RowKit
noncomputable def sclX (kind:Int) (text:Gr.Str):Bool:=
 if kind=0 then text.isEmpty else if kind=1 then(decide (text=[116,114,117,101]) || decide (text=[102,97,108,115,101]))
 else if kind=2 then Gr.intB text else if kind=3 then(Gr.readP text).isSome else if kind=4 then Gr.fltP text else if kind=5 then utfB text
 else if kind=6 then true else if kind=7 then Gr.insB text else if kind=8 then Gr.locB text else false
theorem sclX_kind (k:Int) (t:Gr.Str) (h:sclX k t=true):0<=k/\k<=8:=by
 unfold sclX at h;by_cases h0:k=0
 ·omega
 by_cases h1:k=1
 ·omega
 by_cases h2:k=2
 ·omega
 by_cases h3:k=3
 ·omega
 by_cases h4:k=4
 ·omega
 by_cases h5:k=5
 ·omega
 by_cases h6:k=6
 ·omega
 by_cases h7:k=7
 ·omega
 by_cases h8:k=8
 ·omega
 simp[h0,h1,h2,h3,h4,h5,h6,h7,h8]at h
theorem sclX_0 (t:Gr.Str):sclX 0 t=t.isEmpty:=rfl
theorem sclX_1 (t:Gr.Str):sclX 1 t=(decide (t=[116,114,117,101]) || decide (t=[102,97,108,115,101])):=rfl
theorem sclX_2 (t:Gr.Str):sclX 2 t=Gr.intB t:=rfl
theorem sclX_3 (t:Gr.Str):sclX 3 t=(Gr.readP t).isSome:=rfl
theorem sclX_4 (t:Gr.Str):sclX 4 t=Gr.fltP t:=rfl
theorem sclX_5 (t:Gr.Str):sclX 5 t=utfB t:=rfl
theorem sclX_6 (t:Gr.Str):sclX 6 t=true:=rfl
theorem sclX_7 (t:Gr.Str):sclX 7 t=Gr.insB t:=rfl
theorem sclX_8 (t:Gr.Str):sclX 8 t=Gr.locB t:=rfl
theorem sclX_o (k:Int) (t:Gr.Str) (h:k<0\/8<k):sclX k t=false:=by
 cases hs:sclX k t with
 |false=>rfl
 |true=>have:=sclX_kind k t hs;omega
theorem scal_other (kind:Int) (text:Gr.Str) (h:kind<0\/8<kind):ScalOk UT kind text false:=by
 intro w hw;have h0:(kind==0)=false:=by rw[beq_eq_false_iff_ne];omega
 have h1:(kind==1)=false:=by rw[beq_eq_false_iff_ne];omega
 have h2:(kind==2)=false:=by rw[beq_eq_false_iff_ne];omega
 have h3:(kind==3)=false:=by rw[beq_eq_false_iff_ne];omega
 have h4:(kind==4)=false:=by rw[beq_eq_false_iff_ne];omega
 have h5:(kind==5)=false:=by rw[beq_eq_false_iff_ne];omega
 have h6:(kind==6)=false:=by rw[beq_eq_false_iff_ne];omega
 have h7:(kind==7)=false:=by rw[beq_eq_false_iff_ne];omega
 have h8:(kind==8)=false:=by rw[beq_eq_false_iff_ne];omega
 clear hw h;go_enter Tryz.func42,Tryz.ntmps42;go_wp2_with fail;go_ret;exact⟨rfl,Below.refl _ _⟩
theorem scal_x (kind:Int) (text:Gr.Str) (hl:text.length<=268435455):ScalOk UT kind text (sclX kind text):=by
 have hl2:text.length<=1073741823:=by omega
 by_cases h:kind<0\/8<kind
 ·rw[sclX_o _ _ h];exact scal_other _ _ h
 ·have hc:kind=0\/kind=1\/kind=2\/kind=3\/kind=4\/kind=5\/kind=6\/kind=7\/kind=8:=by omega
  rcases hc with rfl|rfl|rfl|rfl|rfl|rfl|rfl|rfl|rfl
  ·rw[sclX_0];exact scal_null text
  ·rw[sclX_1];exact scal_bool text
  ·rw[sclX_2];exact scal_int text hl2
  ·rw[sclX_3];exact scal_dec text hl2
  ·rw[sclX_4];exact scal_flt text hl2
  ·rw[sclX_5];exact scal_text text hl2
  ·rw[sclX_6];exact scal_bytes text
  ·rw[sclX_7];exact scal_ins text hl2
  ·rw[sclX_8];exact scal_loc text hl2
def RScal (kind:Int) (text:Gr.Str) (r:Bool):Prop:=∀w,Calls Tryz.prog 17 #[.int .i64 kind,.string ⟨text.toArray⟩] w fun e w'=>e=.returned (.bool r)/\Below w.heap.size w w'
theorem rscal_0 (text:Gr.Str):RScal 0 text text.isEmpty:=by
 intro w;have ht:=text_eq text;go_enter Tryz.func17,Tryz.ntmps17;go_wp2_with fail;go_ret;exact⟨rfl,Below.refl _ _⟩
theorem rscal_1 (text:Gr.Str):RScal 1 text (decide (text=[116,114,117,101]) || decide (text=[102,97,108,115,101])):=by
 intro w;by_cases h1:text=[116,114,117,101]
 ·subst h1;go_enter Tryz.func17,Tryz.ntmps17;go_wp2_with fail;go_ret;exact⟨rfl,Below.refl _ _⟩
 ·have hb1:(text==[116,114,117,101])=false:=by rw[beq_eq_false_iff_ne];exact h1
  by_cases h2:text=[102,97,108,115,101]
  ·subst h2;go_enter Tryz.func17,Tryz.ntmps17;go_wp2_with fail;go_ret;exact⟨rfl,Below.refl _ _⟩
  ·have hb2:(text==[102,97,108,115,101])=false:=by rw[beq_eq_false_iff_ne];exact h2
   have HF:Hid ((decide (text=[116,114,117,101]) || decide (text=[102,97,108,115,101]))=false):=Lib.hid (by simp[h1,h2]);rw[HF.out];clear h1 h2;go_enter Tryz.func17,Tryz.ntmps17;go_wp2_with fail;go_ret;exact⟨rfl,Below.refl _ _⟩
theorem rscal_2 (text:Gr.Str) (hl:text.length<=268435455):RScal 2 text (Gr.intB text):=by
 intro w;have HC:=Lib.hid (rvalid_any text (by omega) w);obtain⟨r,hr⟩:∃r,Gr.intB text=r:=⟨_,rfl⟩
 rw[hr]at HC ⊢;clear hr;go_enter Tryz.func17,Tryz.ntmps17;go_wp2_with fail;refine HC.out.mono ?_;rintro e w2 ⟨rfl,hb⟩;have HB:=Lib.hid (hb▸Below.refl _ _:Below w.heap.size w w2);clear hb;go_wp2_with fail;go_ret;exact⟨rfl,HB.out⟩
theorem rscal_3 (text:Gr.Str) (hl:text.length<=268435455):RScal 3 text (Gr.readP text).isSome:=by
 intro w;have HC:=Lib.hid (rread_any text hl w);rw[Gr.read_eq];obtain⟨r,hr⟩:∃r,(Gr.readR text).isSome=r:=⟨_,rfl⟩
 rw[hr]at HC ⊢;clear hr;unfold RReadPost at HC;go_enter Tryz.func17,Tryz.ntmps17;go_wp2_with fail;refine HC.out.mono ?_;rintro e w2 ⟨n,A,l,c,x,rfl,hb⟩;have HB:=Lib.hid hb;clear hb;go_wp2_with fail;go_ret;exact⟨rfl,HB.out.alloc HB.out.size _⟩
theorem rscal_4 (text:Gr.Str) (hl:text.length<=268435455):RScal 4 text (Gr.fltP text):=by
 intro w;have HC:=Lib.hid (rfof_any text (by omega) w);rw[Gr.flt_eq];obtain⟨r,hr⟩:∃r,Gr.fltR text=r:=⟨_,rfl⟩
 rw[hr]at HC ⊢;clear hr;unfold OfF at HC;go_enter Tryz.func17,Tryz.ntmps17;go_wp2_with fail;refine HC.out.mono ?_;rintro e w2 ⟨⟨a,b,c,d,rfl⟩,hb⟩;have HB:=Lib.hid hb;clear hb;go_wp2_with fail;go_ret;exact⟨rfl,HB.out.alloc HB.out.size _⟩
theorem rscal_5 (text:Gr.Str) (hl:text.length<=268435455):RScal 5 text (utfB text):=by
 intro w;obtain⟨r,hr⟩:∃r,utfB text=r:=⟨_,rfl⟩
 have HC:=Lib.hid (Utf.valid_any text (by omega) w r (by rw[<-hr];unfold utfB;cases Utf.bad text<;>rfl));rw[hr];clear hr;go_enter Tryz.func17,Tryz.ntmps17;go_wp2_with fail;refine HC.out.mono ?_;rintro e w2 ⟨rfl,hb⟩;have HB:=Lib.hid hb;clear hb;go_wp2_with fail;go_ret;exact⟨rfl,HB.out⟩
theorem rscal_6 (text:Gr.Str):RScal 6 text true:=by
 intro w;go_enter Tryz.func17,Tryz.ntmps17;go_wp2_with fail;go_ret;exact⟨rfl,Below.refl _ _⟩
theorem rscal_7 (text:Gr.Str) (hl:text.length<=268435455):RScal 7 text (Gr.insB text):=by
 intro w;have HC:=Lib.hid (rinstant_any text (by omega) w);obtain⟨r,hr⟩:∃r,Gr.insB text=r:=⟨_,rfl⟩
 rw[hr]at HC ⊢;clear hr;go_enter Tryz.func17,Tryz.ntmps17;go_wp2_with fail;refine HC.out.mono ?_;rintro e w2 ⟨rfl,hb⟩;have HB:=Lib.hid hb;clear hb;go_wp2_with fail;go_ret;exact⟨rfl,HB.out⟩
theorem rscal_8 (text:Gr.Str) (hl:text.length<=268435455):RScal 8 text (Gr.locB text):=by
 intro w;have HC:=Lib.hid (rlocal_any text (by omega) w);obtain⟨r,hr⟩:∃r,Gr.locB text=r:=⟨_,rfl⟩
 rw[hr]at HC ⊢;clear hr;go_enter Tryz.func17,Tryz.ntmps17;go_wp2_with fail;refine HC.out.mono ?_;rintro e w2 ⟨rfl,hb⟩;have HB:=Lib.hid hb;clear hb;go_wp2_with fail;go_ret;exact⟨rfl,HB.out⟩
theorem rscal_other (kind:Int) (text:Gr.Str) (h:kind<0\/8<kind):RScal kind text false:=by
 intro w;have h0:(kind==0)=false:=by rw[beq_eq_false_iff_ne];omega
 have h1:(kind==1)=false:=by rw[beq_eq_false_iff_ne];omega
 have h2:(kind==2)=false:=by rw[beq_eq_false_iff_ne];omega
 have h3:(kind==3)=false:=by rw[beq_eq_false_iff_ne];omega
 have h4:(kind==4)=false:=by rw[beq_eq_false_iff_ne];omega
 have h5:(kind==5)=false:=by rw[beq_eq_false_iff_ne];omega
 have h6:(kind==6)=false:=by rw[beq_eq_false_iff_ne];omega
 have h7:(kind==7)=false:=by rw[beq_eq_false_iff_ne];omega
 have h8:(kind==8)=false:=by rw[beq_eq_false_iff_ne];omega
 clear h;go_enter Tryz.func17,Tryz.ntmps17;go_wp2_with fail;go_ret;exact⟨rfl,Below.refl _ _⟩
theorem rscal_x (kind:Int) (text:Gr.Str) (hl:text.length<=268435455):RScal kind text (sclX kind text):=by
 by_cases h:kind<0\/8<kind
 ·rw[sclX_o _ _ h];exact rscal_other _ _ h
 ·have hc:kind=0\/kind=1\/kind=2\/kind=3\/kind=4\/kind=5\/kind=6\/kind=7\/kind=8:=by omega
  rcases hc with rfl|rfl|rfl|rfl|rfl|rfl|rfl|rfl|rfl
  ·rw[sclX_0];exact rscal_0 text
  ·rw[sclX_1];exact rscal_1 text
  ·rw[sclX_2];exact rscal_2 text hl
  ·rw[sclX_3];exact rscal_3 text hl
  ·rw[sclX_4];exact rscal_4 text hl
  ·rw[sclX_5];exact rscal_5 text hl
  ·rw[sclX_6];exact rscal_6 text
  ·rw[sclX_7];exact rscal_7 text hl
  ·rw[sclX_8];exact rscal_8 text hl
end Go.Proofs.YtoigpackhninoaaGreatDoor
namespace Go.Proofs.YtoigpackhninoaaGreatDoor
set_option maxRecDepth 100000
set_option maxHeartbeats 16000000
open Go.RowKit
theorem str_list (s:ByteArray):∃l:List UInt8,s=⟨l.toArray⟩:=⟨s.data.toList,by apply ByteArray.ext;simp⟩
theorem str_size (l:List UInt8):(⟨l.toArray⟩:ByteArray).size=l.length:=by simp[ByteArray.size]
theorem agree_any (A A2:Option Addr) (c c2:Nat) (root no:Int) (vs vs2:List NV) (is:List Gr.Ni) (hz:Sz is) (w:World) (h:IAt w w.heap.size A vs is) (h2:IAt w w.heap.size A2 vs2 is) (hck:no=0->ChkOk w (.agg #[.slice A is.length c,.int .i64 root]) 0):
 Calls Tryz.prog 18 #[.agg #[.slice A is.length c,.int .i64 root],.int .i64 no,.agg #[.slice A2 is.length c2,.int .i64 root],.int .i64 no] w fun e w'=>e=.returned (.bool true)/\Below w.heap.size w w':=by
 have HI:=Lib.hid (fun W (hW:Below w.heap.size w W)=>ident_same A A2 c c2 root vs vs2 is hz W ((h.below hW).more hW.size) ((h2.below hW).more hW.size));have HCK:=Lib.hid hck;obtain⟨N,hN⟩:∃N,is.length=N:=⟨_,rfl⟩
 rw[hN]at HI HCK ⊢;clear h h2 hz hck hN;obtain⟨gb,hgb⟩:∃gb,w.heap.size=gb:=⟨_,rfl⟩
 have HGB:=Lib.hid hgb;go_enter Tryz.func18,Tryz.ntmps18;go_upto_region 1 with fail;obtain⟨w1,hw1⟩:∃w1,(w.alloc (.cells #[.slice A N c,.int .i64 root] 24)).alloc (.cells #[.slice A2 N c2,.int .i64 root] 24)=w1:=⟨_,rfl⟩
 have HB1:Hid (Blk w1 gb 24 #[.slice A N c,.int .i64 root]/\Blk w1 (gb+1) 24 #[.slice A2 N c2,.int .i64 root]/\Below w.heap.size w w1):=Lib.hid (by
  rw[<-hw1,<-hgb];refine⟨(Blk.new _ _ _).alloc _,?_,((Below.refl _ _).alloc (Nat.le_refl _) _).alloc (by simp) _⟩;have:=Blk.new (w.alloc (.cells #[.slice A N c,.int .i64 root] 24)) 24 #[.slice A2 N c2,.int .i64 root];rw[World.size_alloc]at this;exact this)
 (try rw[hw1]);(try rw[hgb]);clear hw1 hgb;obtain⟨a0,a1⟩:=cells2 HB1.out.1;obtain⟨b0,b1⟩:=cells2 HB1.out.2.1;by_cases h0:no=0
 ·have HC0:=Lib.hid (HCK.out h0);clear HCK;subst h0;have h0b:((0:Int)==0)=true:=rfl;go_wp2_with fail;refine(HI.out _ HB1.out.2.2).mono ?_;rintro _ w2 ⟨rfl,hb2⟩;have HB2:Hid (Below w.heap.size w w2):=Lib.hid (HB1.out.2.2.trans (hb2.mono HB1.out.2.2.size));have x:=HB1.out.1.below hb2 HB1.out.1.lt;obtain⟨e0,e1⟩:=cells2 x;clear hb2 x a0 a1 b0 b1;go_wp2_with fail;refine(HC0.out _ HB2.out).mono ?_;rintro _ w3 ⟨rfl,hb3⟩;have HB3:Hid (Below w.heap.size w w3):=Lib.hid (HB2.out.trans (hb3.mono HB2.out.size));clear hb3 e0 e1;go_wp2_with fail;go_ret;exact⟨rfl,HB3.out⟩
 ·have h0b:(no==0)=false:=by simpa using h0
  have h0c:(no != 0)=true:=by rw[bne,h0b];rfl
  go_wp2_with fail;refine(HI.out _ HB1.out.2.2).mono ?_;rintro _ w2 ⟨rfl,hb2⟩;have HB2:Hid (Below w.heap.size w w2):=Lib.hid (HB1.out.2.2.trans (hb2.mono HB1.out.2.2.size));clear hb2 a0 a1 b0 b1;go_wp2_with fail;go_ret;exact⟨rfl,HB2.out⟩
theorem Scalar_out (kind:Int) (text:Gr.Str) (hk:kind<0\/8<kind) (w:World):
 Calls Tryz.prog 16 #[.int .i64 kind,.string ⟨text.toArray⟩] w fun e w'=>e=.returned (.tuple #[gZero,.int .i64 1])/\Below w.heap.size w w':=by
 obtain⟨w1,hw1⟩:∃w1,w.alloc (.cells #[.slice none 0 0,.int .i64 0] 24)=w1:=⟨_,rfl⟩
 obtain⟨gb,hgb⟩:∃gb,w.heap.size=gb:=⟨_,rfl⟩
 have l1:Below gb w w1:=by rw[<-hw1,<-hgb];exact(Below.refl _ _).alloc (Nat.le_refl _) _
 have b1:Blk w1 gb 24 #[.slice none 0 0,.int .i64 0]:=by rw[<-hw1,<-hgb];exact Blk.new _ _ _
 have HL1:=Lib.hid l1;have HGB:=Lib.hid hgb;have df:∀i,w1.frozen? ⟨gb,i,none⟩=false:=b1.frozen;obtain⟨d0,d1⟩:=cells2 b1;clear l1 b1;go_enter Tryz.func16,Tryz.ntmps16;go_upto_region 1 with fail;(try rw[hw1]);(try rw[hgb]);clear hw1 hgb;rcases hk with hk|hk
 ·go_wp2_with fail;refine bodyPost_ret (v:=.tuple #[gZero,.int .i64 1]) (by rw[results_cell_tmp rfl];go_simp;rfl) rfl ⟨rfl,?_⟩;rw[HGB.out];exact(HL1.out.setCell (by simp) _).setCell (by simp) _
 ·have hk2:¬kind<0:=by omega
  go_wp2_with fail;refine bodyPost_ret (v:=.tuple #[gZero,.int .i64 1]) (by rw[results_cell_tmp rfl];go_simp;rfl) rfl ⟨rfl,?_⟩;rw[HGB.out];exact(HL1.out.setCell (by simp) _).setCell (by simp) _
theorem iat_nil (w:World):IAt w w.heap.size none [] []:=
 ⟨(OwnRow.nil (L:=nodeL) (w:=w) (base:=0) (E:=35)).form.elim (fun A h=>by obtain⟨c,h1,h2⟩:=h;injection h1 with e1;subst e1;exact h2),rfl,fun j h=>by simp at h,fun j h=>by simp at h⟩
theorem sz_nil:Sz []:=⟨by simp,fun x hx=>by cases hx⟩
theorem sz_one (kind:Int) (text:Gr.Str) (h:text.length<=9223372036854775807):Sz [⟨kind,text,false,[],[]⟩]:=
 ⟨by simp,fun x hx=>by rw[List.mem_singleton.1 hx];exact⟨h,by simp,by simp⟩⟩
theorem chk_x (A:Option Addr) (c:Nat) (root:Int) (vs:List NV) (is:List Gr.Ni) (hs:∀x∈is,x.text.length<=268435455/\x.keys.length<=1073741823/\x.items.length<=1073741823) (hl:is.length<=1073741823) (w:World) (hUT:UT w) (h:IAt w w.heap.size A vs is):
 ChkOk w (.agg #[.slice A is.length c,.int .i64 root]) (checkI sclX is root):=fun W hW=>
 check_any UT UT.stays sclX A c root vs is (fun x hx=>by
  obtain⟨y,hy,rfl⟩:=List.mem_map.1 hx;have:=hs y hy;simp only[Gr.Ni.nd,List.length_map];omega) (fun x hx _ _ _ _ _ _=>by
  obtain⟨y,hy,rfl⟩:=List.mem_map.1 hx;exact scal_x _ _ (hs y hy).1) hl W (UT.stays _ _ hUT hW) ((h.below hW).more hW.size)
theorem chk_one (kind:Int) (text:Gr.Str) (h:sclX kind text=true):checkI sclX [⟨kind,text,false,[],[]⟩] 0=0:=by
 have hk:=sclX_kind kind text h;have hf:Gr.formB sclX (Gr.Ni.nd ⟨kind,text,false,[],[]⟩)=true:=by
  unfold Gr.formB Gr.Ni.nd;simp only[List.map_nil];rw[if_neg (by omega),if_neg (by omega),if_neg (by omega),h];rfl
 have e0:checkI sclX [⟨kind,text,false,[],[]⟩] 0=Gr.checkN sclX [⟨kind,text,false,[],[]⟩] 0:=rfl;have hm:Gr.marks [⟨kind,text,false,[],[]⟩] 0=[true]:=rfl;have hin:Gr.inKeys [⟨kind,text,false,[],[]⟩]=[false]:=rfl;have ht:Gr.twice [⟨kind,text,false,[],[]⟩] 1=false:=rfl;have hd:(Gr.depth [⟨kind,text,false,[],[]⟩] 0).1=0:=rfl;rw[e0];unfold Gr.checkN;rw[hm,hin];have e1:(List.range 1).all (fun i=>[true].getD i false && Gr.formB sclX (([⟨kind,text,false,[],[]⟩]:List Gr.Nd).getD i ⟨0,[],false,[],[]⟩))=true:=by
  show((true && Gr.formB sclX ⟨kind,text,false,[],[]⟩) && true)=true;have hf:Gr.formB sclX ⟨kind,text,false,[],[]⟩=true:=hf;rw[hf];rfl
 rw[if_neg (by rw[List.length_singleton,e1];simp),if_neg (by rw[List.length_singleton];show¬(false=true);decide),List.length_singleton,ht,hd];rfl
theorem gscalars_any (kind:Int) (text:Gr.Str) (hmx:text.length<=9223372036854775807) (w:World) (hUT:UT w):Calls Tryz.prog 4 #[.int .i64 kind,.string ⟨text.toArray⟩] w fun e w'=>e=.returned (.bool true)/\Below w.heap.size w w':=by
 have HT:=Lib.hid hUT;have HAW:=Lib.hid (fun W hW=>awake_any W hW);clear hUT;by_cases h3:text.length<=300
 ·have h3I:¬(300:Int)<(text.length:Int):=by omega
  have HAG:=Lib.hid (fun A A2 c c2 root no vs vs2 is hz W h h2 hck=>agree_any A A2 c c2 root no vs vs2 is hz W h h2 hck);by_cases hk:kind<0\/8<kind
  ·have HS:=Lib.hid (fun W=>Scalar_out kind text hk W);unfold gZero at HS;have HG:=Lib.hid (fun W=>agree_any none none 0 0 0 1 [] [] [] sz_nil W (iat_nil W) (iat_nil W) (by simp));have hkd:kind<0\/(¬kind<0/\8<kind):=by omega
   clear hk HAG;rcases hkd with hk|⟨hk,hk2⟩
   all_goals
    go_enter Tryz.func4,Tryz.ntmps4;go_wp2_with fail;refine(HS.out _).mono ?_;rintro _ w1 ⟨rfl,hb1⟩;have HB1:=Lib.hid hb1;clear hb1;go_wp2_with fail;refine(HG.out _).mono ?_;rintro _ w2 ⟨rfl,hb2⟩;have HB2:Hid (Below w.heap.size w w2):=Lib.hid (((HB1.out.alloc HB1.out.size _).alloc (by have:=HB1.out.size;simp;omega) _).trans (hb2.mono (by have:=HB1.out.size;simp;omega)));clear hb2;go_wp2_with fail;refine(HAW.out _ (UT.stays _ _ HT.out HB2.out)).mono ?_;rintro _ w3 ⟨rfl,hb3⟩;have HB3:Hid (Below w.heap.size w w3):=Lib.hid (HB2.out.trans (hb3.mono HB2.out.size));clear hb3;go_wp2_with fail;go_ret;exact⟨rfl,HB3.out⟩
  ·have hk1:0<=kind:=by omega
   have hk2:kind<=8:=by omega
   have n1:¬kind<0:=by omega
   have n2:¬(8:Int)<kind:=by omega
   have HS:=Lib.hid (fun W hW=>Scalar_any UT UT.stays kind text (sclX kind text) hk1 hk2 (scal_x kind text (by omega)) W hW);have HR:=Lib.hid (fun W=>rscal_x kind text (by omega) W);cases hr:sclX kind text with
   |false=>
    have HG:=Lib.hid (fun W=>agree_any none none 0 0 0 3 [] [] [] sz_nil W (iat_nil W) (iat_nil W) (by simp));rw[hr]at HS HR;clear hk HAG hr;go_enter Tryz.func4,Tryz.ntmps4;go_wp2_with fail;refine(HS.out _ HT.out).mono ?_;rintro _ w1 ⟨hb1,hs1,_⟩;have hs1:=hs1 rfl;unfold gZero at hs1;subst hs1;have HB1:=Lib.hid hb1;clear hb1;go_wp2_with fail;refine(HR.out _).mono ?_;rintro _ w2 ⟨rfl,hb2⟩;have HB2:Hid (Below w.heap.size w w2):=Lib.hid (((HB1.out.alloc HB1.out.size _).alloc (by have:=HB1.out.size;simp;omega) _).trans (hb2.mono (by have:=HB1.out.size;simp;omega)));obtain⟨gs,hgs⟩:∃gs,w1.heap.size=gs:=⟨_,rfl⟩
    have HBL:Hid (Blk w2 gs 24 #[.slice none 0 0,.int .i64 0]/\Blk w2 (gs+1) 24 #[.slice none 0 0,.int .i64 0]):=Lib.hid (by
     rw[<-hgs];have x1:=(Blk.new w1 24 #[.slice none 0 0,.int .i64 0]).alloc (.cells #[.slice none 0 0,.int .i64 0] 24);have x2:=Blk.new (w1.alloc (.cells #[.slice none 0 0,.int .i64 0] 24)) 24 #[.slice none 0 0,.int .i64 0];rw[World.size_alloc]at x2;exact⟨x1.below hb2 x1.lt,x2.below hb2 x2.lt⟩)
    (try rw[hgs]);clear hb2 hgs;obtain⟨c0,c1⟩:=cells2 HBL.out.1;obtain⟨d0,d1⟩:=cells2 HBL.out.2;go_wp2_with fail;refine(HG.out _).mono ?_;rintro _ w4 ⟨rfl,hb4⟩;have HB4:Hid (Below w.heap.size w w4):=Lib.hid (HB2.out.trans (hb4.mono HB2.out.size));clear hb4;go_wp2_with fail;refine(HAW.out _ (UT.stays _ _ HT.out HB4.out)).mono ?_;rintro _ w3 ⟨rfl,hb3⟩;have HB3:Hid (Below w.heap.size w w3):=Lib.hid (HB4.out.trans (hb3.mono HB4.out.size));clear hb3;go_wp2_with fail;go_ret;exact⟨rfl,HB3.out⟩
   |true=>
    rw[hr]at HS HR;have HCO:=Lib.hid (chk_one kind text hr);clear hk hr;go_enter Tryz.func4,Tryz.ntmps4;go_wp2_with fail;refine(HS.out _ HT.out).mono ?_;rintro _ w1 ⟨hb1,_,hs1⟩;obtain⟨gn,hgn,he,hbn⟩:=hs1 rfl;subst he;have HB1:=Lib.hid hb1;have HGN:Hid (w.heap.size<=gn/\Blk w1 gn 35 #[.int .i64 kind,.string ⟨text.toArray⟩,.bool false,.slice none 0 0,.slice none 0 0]):=Lib.hid ⟨hgn,hbn⟩;clear hb1 hs1 hgn hbn;go_wp2_with fail;refine(HR.out _).mono ?_;rintro _ w2 ⟨rfl,hb2⟩;have HB2:Hid (Below w.heap.size w w2):=Lib.hid (((HB1.out.alloc HB1.out.size _).alloc (by have:=HB1.out.size;simp;omega) _).trans (hb2.mono (by have:=HB1.out.size;simp;omega)));obtain⟨gs,hgs⟩:∃gs,w1.heap.size=gs:=⟨_,rfl⟩
    have HBL:Hid (Blk w2 gs 24 #[.slice (some ⟨gn,0,none⟩) 1 1,.int .i64 0]/\Blk w2 (gs+1) 24 #[.slice none 0 0,.int .i64 0]/\Blk w2 gn 35 #[.int .i64 kind,.string ⟨text.toArray⟩,.bool false,.slice none 0 0,.slice none 0 0]/\w.heap.size<=gs):=Lib.hid (by
     rw[<-hgs];have x1:=(Blk.new w1 24 #[.slice (some ⟨gn,0,none⟩) 1 1,.int .i64 0]).alloc (.cells #[.slice none 0 0,.int .i64 0] 24);have x2:=Blk.new (w1.alloc (.cells #[.slice (some ⟨gn,0,none⟩) 1 1,.int .i64 0] 24)) 24 #[.slice none 0 0,.int .i64 0];rw[World.size_alloc]at x2;have x3:=(HGN.out.2.alloc (.cells #[.slice (some ⟨gn,0,none⟩) 1 1,.int .i64 0] 24)).alloc (.cells #[.slice none 0 0,.int .i64 0] 24);exact⟨x1.below hb2 x1.lt,x2.below hb2 x2.lt,x3.below hb2 x3.lt,HB1.out.size⟩)
    (try rw[hgs]);clear hb2 hgs;obtain⟨c0,c1⟩:=cells2 HBL.out.1;obtain⟨d0,d1⟩:=cells2 HBL.out.2.1;have df:∀i,w2.frozen? ⟨gs+1,i,none⟩=false:=HBL.out.2.1.frozen;go_wp2_with (at_builtin;go_must (refine wpList_append_row _ rfl (.tmp 21) (.tmp 25) 22 35 80 rfl nodeT (gs+2) (.slice none 0 0) [] rfl OwnRow.nil _ _ 1 [⟨kind,text,false,SV.nil,SV.nil⟩] rfl (RowAt.lit1 _ _ rfl _ ?_) ?_ ?_ ?_))
    ·rfl
    ·simp
    ·rw[World.size_alloc];have:=HBL.out.2.1.lt;omega
    intro v' w3 hown3 hg3 _;have hown3:OwnRow nodeL w3 (gs+2) 35 v' [⟨kind,text,false,SV.nil,SV.nil⟩]:=hown3;obtain⟨w2a,hw2a⟩:∃x,w2.alloc (.cells #[.int .i64 kind,.string ⟨text.toArray⟩,.bool false,.slice none 0 0,.slice none 0 0] 35)=x:=⟨_,rfl⟩
    have hbw:Below w2a.heap.size w2a w3:=by rw[<-hw2a];exact(Below.refl _ _).grown hg3 (Nat.le_refl _) (fun k hk=>by cases hk)
    have hb2a:Below w2.heap.size w2 w3:=by
     rw[<-hw2a]at hbw;exact((Below.refl _ _).alloc (Nat.le_refl _) _).trans (hbw.mono (by simp))
    have hown4:OwnRow nodeL (w3.setCell ⟨gs+1,0,none⟩ v') (gs+2) 35 v' [⟨kind,text,false,SV.nil,SV.nil⟩]:=hown3.setCell (by intro e;have:=(hown3.lt _ e).1;simp only at this;omega) _;obtain⟨A2,c2,hv',hrow⟩:=hown4.form;have hv':v'=.slice A2 1 c2:=hv';subst hv';have x1:=(HBL.out.1.below hb2a HBL.out.1.lt).far (p:=⟨gs+1,0,none⟩) (by simp) (.slice A2 1 c2);have x2:=(HBL.out.2.1.below hb2a HBL.out.2.1.lt).set_ 0 (.slice A2 1 c2);have x3:=(HBL.out.2.2.1.below hb2a HBL.out.2.2.1.lt).far (p:=⟨gs+1,0,none⟩) (by intro e;have:=HBL.out.2.1.ne_ HBL.out.2.2.1 (by decide);exact this e.symm) (.slice A2 1 c2);have x4:=(HBL.out.2.1.below hb2a HBL.out.2.1.lt)
    have g0:w3.cell? ⟨gs+1,0,none⟩=some (.slice none 0 0):=x4.cell 0;have g1:∀i,w3.frozen? ⟨gs+1,i,none⟩=false:=x4.frozen;obtain⟨w4,hw4⟩:∃x,w3.setCell ⟨gs+1,0,none⟩ (.slice A2 1 c2)=x:=⟨_,rfl⟩
    have HL4:Hid (Below w.heap.size w w4):=Lib.hid (by rw[<-hw4];exact(HB2.out.trans (hb2a.mono HB2.out.size)).setCell (by simp only;have:=HBL.out.2.2.2;omega) _);rw[hw4]at x1 x2 x3 hrow;have HAGR:Hid (Calls Tryz.prog 18 #[.agg #[.slice (some ⟨gn,0,none⟩) 1 1,.int .i64 0],.int .i64 0,.agg #[.slice A2 1 c2,.int .i64 0],.int .i64 0] w4 fun e w'=>e=.returned (.bool true)/\Below w4.heap.size w4 w'):=Lib.hid (by
     have hi1:IAt w4 w4.heap.size (some ⟨gn,0,none⟩) [⟨kind,text,false,SV.nil,SV.nil⟩] [⟨kind,text,false,[],[]⟩]:=(one_gat x3).toI;refine agree_any (some ⟨gn,0,none⟩) A2 1 c2 0 0 [⟨kind,text,false,SV.nil,SV.nil⟩] [⟨kind,text,false,SV.nil,SV.nil⟩] [⟨kind,text,false,[],[]⟩] (sz_one kind text hmx) w4 hi1 ?_ (fun _=>?_)
     ·exact⟨hrow,rfl,hi1.kind,fun j h h2=>by
       have hj:j=0:=by simp at h;omega
       subst hj;exact⟨RowAt.nil,rfl,RowAt.nil,rfl⟩⟩
     ·have:=chk_x (some ⟨gn,0,none⟩) 1 0 _ [⟨kind,text,false,[],[]⟩] (fun x hx=>by rw[List.mem_singleton.1 hx];exact⟨by simp only;omega,by simp,by simp⟩) (by simp) w4 (UT.stays _ _ HT.out HL4.out) hi1;rw[HCO.out]at this;exact this)
    have HX:Hid (Blk w4 gs 24 #[.slice (some ⟨gn,0,none⟩) 1 1,.int .i64 0]/\Blk w4 (gs+1) 24 #[.slice A2 1 c2,.int .i64 0]):=Lib.hid ⟨x1,x2⟩;(try rw[hw2a]);clear hw2a hbw hb2a hown3 hown4 hg3 hrow x1 x2 x3 x4 c0 c1 d0 d1 df;obtain⟨c0,c1⟩:=cells2 HX.out.1;obtain⟨d0,d1⟩:=cells2 HX.out.2;go_wp2_with fail;(try rw[hw4]);clear hw4;go_wp2_with fail;refine HAGR.out.mono ?_;rintro _ w5 ⟨rfl,hb5⟩;have HB5:Hid (Below w.heap.size w w5):=Lib.hid (HL4.out.trans (hb5.mono HL4.out.size));clear hb5;go_wp2_with fail;refine(HAW.out _ (UT.stays _ _ HT.out HB5.out)).mono ?_;rintro _ w6 ⟨rfl,hb6⟩;have HB6:Hid (Below w.heap.size w w6):=Lib.hid (HB5.out.trans (hb6.mono HB5.out.size));clear hb6;go_wp2_with fail;go_ret;exact⟨rfl,HB6.out⟩
 ·have h3I:(300:Int)<(text.length:Int):=by omega
  go_enter Tryz.func4,Tryz.ntmps4;go_wp2_with fail;refine(HAW.out _ HT.out).mono ?_;rintro _ w1 ⟨rfl,hb1⟩;have HB1:=Lib.hid hb1;clear hb1;go_wp2_with fail;go_ret;exact⟨rfl,HB1.out⟩
end Go.Proofs.YtoigpackhninoaaGreatDoor
